import PyProof.Rows.All
import Wide.All
import OpenK.AllK
import Wide.FinOn
import PySem.Challenge.RW_zs0001_01
open PySem PySem.W PyProof.Rows
set_option Elab.async false
set_option maxRecDepth 100000
set_option maxHeartbeats 8000000
set_option linter.all false
namespace Mine
open_top hd for PySem.Challenge.rw_zs0001_01
end Mine
section TBas
namespace Mine
theorem fill0 : (∀ P, hd.heap_39 P = hd.heap_39 P) ∧ (PySem.Challenge.rw_zs0001_01 = PySem.Challenge.rw_zs0001_01) := by
  k_fill
  exact ⟨fun _ => rfl, rfl⟩

noncomputable abbrev LS : List Str := looseW hd.view_39 [Str.ofString "insort_left", Str.ofString "bisect_left"]
abbrev AA (dp un : Nat) (fr : Option (List Env)) (gd : Option (List Code)) : Around := { handled := none, depth := dp, frames := fr, guards := gd, units := un }

theorem call_raw {prog : Program} {w : World} {A : Around} {E : Value → Shared → Prop} {s : Shared} {Q : Value → Shared → Prop} {K : Frag}
    {name qual : Str} {params : Arguments} {body : List Stmt} {scope : Scope} {dV kV doc pm cdv ct oc : Value} {an od : Option Addr} {osl : Array (Option Value)} {f : Addr} {args : List Value} {binds : List (Str × Value)}
    (X : K.In s.heap) (hlim : s.heap.NoLimit)
    (ho : K.lookup f = some ⟨oc, od, .func (fnOf name qual params body scope dV kV doc pm an cdv ct), osl⟩) (hcd : codeIn K cdv qual = true) (hroom : A.depth < recursionLimit)
    (hbind : BindsTo s (fnOf name qual params body scope dV kV doc pm an cdv ct) ⟨args, []⟩ binds) (hloc : ∀ y ∈ binds, scope.names.lookup y.1 = some .local)
    (hco : scope.isCoroutine = false) (hgen : scope.isGenerator = false) (hk : scope.kind = .function)
    (hcell : ∀ x ∈ scope.names, x.2 ≠ .cell)
    (h : ∀ h₁, Fr s.heap s.heap.objs.size h₁ (fun y => binds.reverse.lookup y) →
      wpAny (model prog w) (A.deeper (envOf qual scope s.heap.objs.size f cdv)) (execs body (envOf qual scope s.heap.objs.size f cdv))
        (fun fl s' => Q (match fl with | .ret v => v | _ => .none) s') (fun _ _ => False)
        { s with heap := h₁, toks := s.toks + binds.length }) :
    wpAny (model prog w) A (call (.ref f) args) Q E s := by
  refine wpAny_call ?_
  refine codeAny_call_def (fd := fnOf name qual params body scope dV kV doc pm an cdv ct) (body := body) (binds := binds) hroom (X _ _ ho) rfl hlim (codeRec_of X hcd) rfl hbind hcell hloc (fun h₁ hns hk₁ => ?_) hco hgen hk
  exact wpAny_mono (h h₁ ⟨hns, hk₁, Nat.le_refl _⟩) (fun _ _ x => x) (fun _ _ x => x.elim)


theorem binds_KW {s : Shared} {K : Frag} {fd : FuncData} {args : Args} {binds : List (Str × Value)} {T D : Addr} {o od : Obj} {items : Array Value} {n : Nat} {part : Option Value}
    {k : Option (Array Value) → Sem (List (Str × Value))} {k2 : Obj → Sem (List (Str × Value))} (X : K.In s.heap) (hd : fd.defaults = .ref T) (ho : K.lookup T = some o) (hs : o.data = .seq items n)
    (h₁ : bindArgs fd args = seqItems? fd.defaults >>= k) (h₂ : k (some items) = Sem.load D part k2) (hD : K.lookup D = some od) (h₃ : k2 od = Sem.pure binds) : BindsTo s fd args binds :=
  fun M A E Q hq => by
    rw [h₁, hd]
    refine wpAny_bind (wpAny_seqItems (X _ _ ho) hs ?_)
    rw [h₂]
    intro Γ p hΓ
    rw [Sem.wp_load]
    refine ⟨od, X _ _ hD, ?_⟩
    rw [h₃]
    exact wpAny_pure hq Γ p hΓ


theorem wstep {h₀ : Heap} {L : Addr} {s : Shared} {J : Nat → (Str → Option Value) → List (Addr × Obj) → Prop} {Q : Flow → Shared → Prop} {n n' : Nat} {h' : Heap} {tk : Nat} {m' : Str → Option Value} {news' : List (Addr × Obj)}
    (F : Fr h₀ L h' m') (N : News h₀ L h' news') (hn : n' < n) (hJ : J n' m' news') : WhileStep2 h₀ L s J Q n .next { s with heap := h', toks := tk } := ⟨h', tk, m', news', n', rfl, F, N, hn, hJ⟩


theorem call_base {prog : Program} {w : World} {A : Around} {E : Value → Shared → Prop} {s : Shared} {Q : Value → Shared → Prop} {K : Frag} {g : Heap}
    {name qual : Str} {params : Arguments} {body : List Stmt} {scope : Scope} {dV kV doc pm cdv ct oc : Value} {an od : Option Addr} {osl : Array (Option Value)} {f : Addr} {args : List Value} {binds : List (Str × Value)}
    (X : K.In g) (hlim : g.NoLimit) (hg : ∀ b o, g.get? b = some o → s.heap.get? b = some o) (hgs : g.objs.size ≤ s.heap.objs.size)
    (ho : K.lookup f = some ⟨oc, od, .func (fnOf name qual params body scope dV kV doc pm an cdv ct), osl⟩) (hcd : codeIn K cdv qual = true) (hroom : A.depth < recursionLimit)
    (hbind : BindsTo s (fnOf name qual params body scope dV kV doc pm an cdv ct) ⟨args, []⟩ binds) (hloc : ∀ y ∈ binds, scope.names.lookup y.1 = some .local)
    (hco : scope.isCoroutine = false) (hgen : scope.isGenerator = false) (hk : scope.kind = .function)
    (hcell : ∀ x ∈ scope.names, x.2 ≠ .cell)
    (h : ∀ h₁, Fr g s.heap.objs.size h₁ (fun y => binds.reverse.lookup y) → (∀ b o, s.heap.get? b = some o → h₁.get? b = some o) →
      wpAny (model prog w) (A.deeper (envOf qual scope s.heap.objs.size f cdv)) (execs body (envOf qual scope s.heap.objs.size f cdv))
        (fun fl s' => Q (match fl with | .ret v => v | _ => .none) s') (fun _ _ => False)
        { s with heap := h₁, toks := s.toks + binds.length }) :
    wpAny (model prog w) A (call (.ref f) args) Q E s := by
  refine wpAny_call ?_
  refine codeAny_call_def (fd := fnOf name qual params body scope dV kV doc pm an cdv ct) (body := body) (binds := binds) hroom (hg _ _ (X _ _ ho)) rfl (hlim.keeps hg) (codeRec_of (X.keeps hg) hcd) rfl hbind hcell hloc (fun h₁ hns hk₁ => ?_) hco hgen hk
  exact wpAny_mono (h h₁ ⟨hns, fun b o e => hk₁ b o (hg b o e), hgs⟩ hk₁) (fun _ _ x => x) (fun _ _ x => x.elim)

theorem call_rawC {prog : Program} {w : World} {A : Around} {E : Value → Shared → Prop} {s : Shared} {Q : Value → Shared → Prop} {K : Frag}
    {name qual : Str} {params : Arguments} {body : List Stmt} {scope : Scope} {dV kV doc pm cdv ct oc : Value} {an od : Option Addr} {osl : Array (Option Value)} {f : Addr} {args : List Value} {binds : List (Str × Value)}
    (X : K.In s.heap) (hlim : s.heap.NoLimit)
    (ho : K.lookup f = some ⟨oc, od, .func (fnOf name qual params body scope dV kV doc pm an cdv ct), osl⟩) (hcd : codeIn K cdv qual = true) (hroom : A.depth < recursionLimit)
    (hbind : BindsTo s (fnOf name qual params body scope dV kV doc pm an cdv ct) ⟨args, []⟩ binds)
    (hkind : (binds.all fun y => scope.names.lookup y.1 == some .local || scope.names.lookup y.1 == some .cell) = true)
    (hnd : ((cellsFrom 0 scope.names []).map (·.1)).Nodup)
    (hco : scope.isCoroutine = false) (hgen : scope.isGenerator = false) (hk : scope.kind = .function)
    (h : ∀ h₁ tk cells, Fr s.heap s.heap.objs.size h₁ (bindL (envOfC qual scope s.heap.objs.size f cdv).kindOf binds fun _ => none) → News s.heap s.heap.objs.size h₁ cells →
      CellsAre (bindC (envOfC qual scope s.heap.objs.size f cdv).kindOf binds fun _ => none) (cellsFrom (s.heap.objs.size + 1) scope.names []) cells →
      wpAny (model prog w) (A.deeper (envOfC qual scope s.heap.objs.size f cdv)) (execs body (envOfC qual scope s.heap.objs.size f cdv))
        (fun fl s' => Q (match fl with | .ret v => v | _ => .none) s') (fun _ _ => False)
        { s with heap := h₁, toks := tk }) :
    wpAny (model prog w) A (call (.ref f) args) Q E s := by
  refine wpAny_call ?_
  refine codeAny_call_function hroom (X _ _ ho) rfl hco hgen rfl (codeRec_of X hcd) (hbind _ _ _ _ ?_)
  refine wpAny_newFunctionEnv_cells hk (kindsX hkind _) fun env' he s' x => ?_
  subst he
  refine ⟨hlim.keeps x.toInCall.keep, codeAny_func ?_⟩
  obtain ⟨h₁, tk, rfl, _⟩ := x.done
  have hk₁ := x.toInCall.keep
  obtain ⟨cells, NC, Y⟩ := Cl.news (h₀ := s.heap) (Nat.le_refl _) fun n c hm => ⟨x.cell n c (lookup_of_mem_nodup (cellsFrom_names scope.names 0 (s.heap.objs.size + 1) [] [] rfl ▸ hnd) hm), x.above n c hm⟩
  exact wpAny_mono (h h₁ tk cells ⟨x.toInCall.ns, hk₁, Nat.le_refl _⟩ NC Y) (fun _ _ x => x) (fun _ _ x => x.elim)

end Mine
end TBas
section TTup
namespace Mine

/-- the heap bears at v the pair (d, o) of ints -/
def IsPr (h : Heap) (v : Value) (p : Int × Int) : Prop := ∃ a t u, v = .ref a ∧ h.IsTuple a #[.int p.1 t, .int p.2 u]
theorem IsPr.keeps {h h' : Heap} {v : Value} {p : Int × Int} (x : IsPr h v p) (hk : ∀ b o, h.get? b = some o → h'.get? b = some o) : IsPr h' v p := by
  obtain ⟨a, t, u, rfl, o, ho, r⟩ := x
  exact ⟨a, t, u, rfl, o, hk _ _ ho, r⟩

def prLt (p q : Int × Int) : Bool := decide (p.1 < q.1) || (decide (p.1 = q.1) && decide (p.2 < q.2))

section
variable {prog : Program} {w : World} {A : Around} {E : Value → Shared → Prop} {s : Shared}
theorem lt_tree {p q : Int × Int} {a b : Addr} {t u t' u' : Tok} {P : Fin → Shared → Prop} (hx : s.heap.IsTuple a #[.int p.1 t, .int p.2 u]) (hy : s.heap.IsTuple b #[.int q.1 t', .int q.2 u']) (h : P (.done (.ret (.bool (prLt p q)))) s) :
    wpAny (model prog w) A (Builtin.«tuple.__lt__» ⟨[.ref a, .ref b], []⟩) P E s := by
  obtain ⟨oa, hoa, hca, na, hda⟩ := hx
  obtain ⟨ob, hob, hcb, nb, hdb⟩ := hy
  show wpAny _ _ (isInstance (.ref b) (.type "tuple") >>= _) _ _ s
  refine wpAny_bind (wpAny_isInstance ⟨ob, hob, hcb⟩ isSubtype_tuple_tuple ?_)
  simp only [Bool.not_true, Bool.false_eq_true, if_false]
  refine wpAny_bind (wpAny_tupleItemsOf hoa hda ?_)
  refine wpAny_bind (wpAny_tupleItemsOf hob hdb ?_)
  refine wpAny_bind ?_
  show wpAny _ _ (forIn [(Value.int p.1 t, Value.int q.1 t'), (Value.int p.2 u, Value.int q.2 u')] _ _) _ _ s
  rw [List.forIn_cons]
  refine wpAny_bind ?_
  refine wpAny_bind (wpAny_eqBool_int ?_)
  by_cases h1 : p.1 = q.1
  · have e1 : (p.1 == q.1) = true := by simpa using h1
    rw [e1]
    simp only [Bool.not_true, Bool.false_eq_true, if_false]
    refine wpAny_pure ?_
    dsimp only
    rw [List.forIn_cons]
    refine wpAny_bind ?_
    refine wpAny_bind (wpAny_eqBool_int ?_)
    by_cases h2 : p.2 = q.2
    · have e2 : (p.2 == q.2) = true := by simpa using h2
      rw [e2]
      simp only [Bool.not_true, Bool.false_eq_true, if_false]
      refine wpAny_pure ?_
      dsimp only
      rw [List.forIn_nil]
      refine wpAny_pure ?_
      refine wpAny_pure ?_
      have : prLt p q = false := by simp [prLt, h1, h2]
      rw [this] at h
      exact h
    · have e2 : (p.2 == q.2) = false := by simpa using h2
      rw [e2]
      simp only [Bool.not_false, if_true]
      refine wpAny_bind (wpAny_rule ?_)
      refine wpAny_bind ?_
      refine wpAny_lt_int ?_
      refine wpAny_bind (wpAny_pure ?_)
      refine wpAny_pure ?_
      refine wpAny_pure ?_
      have : prLt p q = decide (p.2 < q.2) := by simp [prLt, h1]
      rw [this] at h
      exact wpAny_pure h
  · have e1 : (p.1 == q.1) = false := by simpa using h1
    rw [e1]
    simp only [Bool.not_false, if_true]
    refine wpAny_bind (wpAny_rule ?_)
    refine wpAny_bind ?_
    refine wpAny_lt_int ?_
    refine wpAny_bind (wpAny_pure ?_)
    refine wpAny_pure ?_
    refine wpAny_pure ?_
    have : prLt p q = decide (p.1 < q.1) := by simp [prLt, h1]
    rw [this] at h
    exact wpAny_pure h

theorem lt_pr {p q : Int × Int} {x y : Value} {Q : Value → Shared → Prop} (hu : A.units < cLine) (hx : IsPr s.heap x p) (hy : IsPr s.heap y q) (h : Q (.bool (prLt p q)) s) :
    wpAny (model prog w) A (compareOp .Lt x y) Q E s := by
  obtain ⟨a, t, u, rfl, ha⟩ := hx
  obtain ⟨b, t', u', rfl, hb⟩ := hy
  have hTa : s.TypeIs (.ref a) "tuple" := let ⟨o, ho, hc, _⟩ := ha; ⟨o, ho, hc⟩
  have hTb : s.TypeIs (.ref b) "tuple" := let ⟨o, ho, hc, _⟩ := hb; ⟨o, ho, hc⟩
  show wpAny _ _ (richCompare .Lt (.ref a) (.ref b)) Q E s
  exact wpAny_richCompare_same_room (op := .Lt) hTa hTb F.slot_tuple_lt
      (wpAny_call_entry F.slot_tuple_lt hTa F.entry_tuple_lt (lt_tree ha hb ⟨_, rfl, (fun e => nomatch e), h⟩) (F.args_tuple_lt_2 _ _)) hu
end
end Mine
end TTup
section TLst
namespace Mine

inductive All2 {α β : Type} (R : α → β → Prop) : List α → List β → Prop
  | nil : All2 R [] []
  | cons {a b as bs} : R a b → All2 R as bs → All2 R (a :: as) (b :: bs)
namespace All2
variable {α β : Type} {R R' : α → β → Prop}
theorem length {as : List α} {bs : List β} (h : All2 R as bs) : as.length = bs.length := by
  induction h with
  | nil => rfl
  | cons _ _ ih => simp [ih]
theorem mono (hR : ∀ a b, R a b → R' a b) {as : List α} {bs : List β} (h : All2 R as bs) : All2 R' as bs := by
  induction h with
  | nil => exact .nil
  | cons h _ ih => exact .cons (hR _ _ h) ih
theorem get {as : List α} {bs : List β} (h : All2 R as bs) {i : Nat} (hi : i < bs.length) : ∃ a, as[i]? = some a ∧ R a bs[i] := by
  induction h generalizing i with
  | nil => exact absurd hi (Nat.not_lt_zero _)
  | cons h _ ih =>
    cases i with
    | zero => exact ⟨_, rfl, h⟩
    | succ i => exact ih (Nat.lt_of_succ_lt_succ hi)
theorem get? {as : List α} {bs : List β} (h : All2 R as bs) {i : Nat} {a : α} (hi : as[i]? = some a) : ∃ b, bs[i]? = some b ∧ R a b := by
  induction h generalizing i with
  | nil => simp at hi
  | cons h _ ih =>
    cases i with
    | zero => simp at hi; subst hi; exact ⟨_, rfl, h⟩
    | succ i => exact ih (by simpa using hi)
theorem append {as as' : List α} {bs bs' : List β} (h : All2 R as bs) (h' : All2 R as' bs') : All2 R (as ++ as') (bs ++ bs') := by
  induction h with
  | nil => exact h'
  | cons h _ ih => exact .cons h ih
theorem take {as : List α} {bs : List β} (h : All2 R as bs) (n : Nat) : All2 R (as.take n) (bs.take n) := by
  induction h generalizing n with
  | nil => simp; exact .nil
  | cons h _ ih =>
    cases n with
    | zero => exact .nil
    | succ n => exact .cons h (ih n)
theorem drop {as : List α} {bs : List β} (h : All2 R as bs) (n : Nat) : All2 R (as.drop n) (bs.drop n) := by
  induction h generalizing n with
  | nil => simp; exact .nil
  | cons h t ih =>
    cases n with
    | zero => exact .cons h t
    | succ n => exact ih n
theorem snoc_inv {as : List α} {bs : List β} {b : β} (h : All2 R as (bs ++ [b])) : ∃ as' a, as = as' ++ [a] ∧ All2 R as' bs ∧ R a b := by
  induction bs generalizing as with
  | nil =>
    cases h with
    | cons h t => cases t; exact ⟨[], _, rfl, .nil, h⟩
  | cons c bs ih =>
    cases h with
    | cons h t =>
      obtain ⟨as', a, rfl, h1, h2⟩ := ih t
      exact ⟨_ :: as', a, rfl, .cons h h1, h2⟩
theorem reverse {as : List α} {bs : List β} (h : All2 R as bs) : All2 R as.reverse bs.reverse := by
  induction h with
  | nil => exact .nil
  | cons h _ ih => simp only [List.reverse_cons]; exact ih.append (.cons h .nil)
end All2

/-- the place that bisect_left gives -/
structure Place (ps : List (Int × Int)) (p : Int × Int) (k : Nat) : Prop where
  le : k ≤ ps.length
  lo : ∀ (i : Nat) (h : i < ps.length), i < k → prLt ps[i] p = true
  hi : ∀ (i : Nat) (h : i < ps.length), k ≤ i → prLt ps[i] p = false

abbrev Srt (ps : List (Int × Int)) : Prop := ps.Pairwise fun a b => prLt b a = false

theorem prLt_trans_lo {a b c : Int × Int} (h1 : prLt b a = false) (h2 : prLt b c = true) : prLt a c = true := by
  simp only [prLt, Bool.or_eq_false_iff, Bool.and_eq_false_iff, decide_eq_false_iff_not, Bool.or_eq_true, Bool.and_eq_true, decide_eq_true_eq] at *
  omega
theorem prLt_trans_hi {a b c : Int × Int} (h1 : prLt b a = false) (h2 : prLt a c = false) : prLt b c = false := by
  simp only [prLt, Bool.or_eq_false_iff, Bool.and_eq_false_iff, decide_eq_false_iff_not] at *
  omega

theorem srt_get {ps : List (Int × Int)} (hs : Srt ps) {i j : Nat} (hj : j < ps.length) (hij : i < j) : prLt ps[j] (ps[i]'(Nat.lt_trans hij hj)) = false :=
  List.pairwise_iff_getElem.mp hs i j _ hj hij
theorem srt_lo {ps : List (Int × Int)} (hs : Srt ps) {p : Int × Int} {mid : Nat} (hm : mid < ps.length) (h : prLt ps[mid] p = true) : ∀ (i : Nat) (hi : i < ps.length), i < mid + 1 → prLt ps[i] p = true := by
  intro i hi hle
  rcases Nat.lt_or_ge i mid with h1 | h1
  · exact prLt_trans_lo (srt_get hs hm h1) h
  · have : i = mid := by omega
    subst this; exact h
theorem srt_hi {ps : List (Int × Int)} (hs : Srt ps) {p : Int × Int} {mid : Nat} (hm : mid < ps.length) (h : prLt ps[mid] p = false) : ∀ (i : Nat) (hi : i < ps.length), mid ≤ i → prLt ps[i] p = false := by
  intro i hi hle
  rcases Nat.lt_or_ge mid i with h1 | h1
  · exact prLt_trans_hi (srt_get hs hi h1) h
  · have : i = mid := by omega
    subst this; exact h

/-- the sorted insertion, by the place -/
def ins (p : Int × Int) : List (Int × Int) → List (Int × Int)
  | [] => [p]
  | q :: r => if prLt q p then q :: ins p r else p :: q :: r
theorem ins_place {ps : List (Int × Int)} {p : Int × Int} {k : Nat} (h : Place ps p k) : ps.take k ++ p :: ps.drop k = ins p ps := by
  induction ps generalizing k with
  | nil => simp [ins]
  | cons q r ih =>
    cases k with
    | zero =>
      have := h.hi 0 (by simp) (Nat.le_refl _)
      simp only [List.getElem_cons_zero] at this
      simp [ins, this]
    | succ k =>
      have h0 := h.lo 0 (by simp) (by omega)
      simp only [List.getElem_cons_zero] at h0
      have := ih (k := k) ⟨by have := h.le; simp at this; omega, fun i hi hk => by
        have := h.lo (i + 1) (by simpa using hi) (by omega)
        simpa using this, fun i hi hk => by
        have := h.hi (i + 1) (by simpa using hi) (by omega)
        simpa using this⟩
      simp [ins, h0, this]
theorem ins_mem {p q : Int × Int} : ∀ {ps : List (Int × Int)}, q ∈ ins p ps ↔ q = p ∨ q ∈ ps
  | [] => by simp [ins]
  | a :: r => by
    unfold ins
    split
    · simp only [List.mem_cons, ins_mem (ps := r)]
      constructor
      · rintro (h | h | h) <;> simp [h]
      · rintro (h | h | h) <;> simp [h]
    · simp
theorem ins_length {p : Int × Int} : ∀ {ps : List (Int × Int)}, (ins p ps).length = ps.length + 1
  | [] => rfl
  | a :: r => by
    unfold ins
    split
    · simp [ins_length (ps := r)]
    · simp
theorem ins_srt {p : Int × Int} : ∀ {ps : List (Int × Int)}, Srt ps → Srt (ins p ps)
  | [], _ => by simp [ins, Srt]
  | a :: r, h => by
    have h' := List.pairwise_cons.mp h
    unfold ins
    split
    · rename_i ha
      refine List.pairwise_cons.mpr ⟨fun q hq => ?_, ins_srt h'.2⟩
      rcases ins_mem.mp hq with rfl | hq
      · simp only [prLt, Bool.or_eq_false_iff, Bool.and_eq_false_iff, decide_eq_false_iff_not, Bool.or_eq_true, Bool.and_eq_true, decide_eq_true_eq] at *
        omega
      · exact h'.1 q hq
    · rename_i ha
      have ha' : prLt a p = false := by simpa using ha
      refine List.pairwise_cons.mpr ⟨fun q hq => ?_, h⟩
      rcases List.mem_cons.mp hq with rfl | hq
      · exact ha'
      · exact prLt_trans_hi (h'.1 q hq) ha'
end Mine
end TLst
section TBis
set_option autoImplicit false
namespace Mine

theorem bis_spec {prog : Program} {w : World} {dp un : Nat} {fr : Option (List Env)} {gd : Option (List Code)} {E : Value → Shared → Prop} {s : Shared} {Q : Value → Shared → Prop} {mean : ExcName → Option Value} {mg mb : Str → Option Value}
  (X0 : (hd.heap_39 w.params).In s.heap) (T0 : Top hd.view_39 LS mean mg mb s.heap) {l : Addr} {t0 : Tok} {x : Value} {items : List Value} {ps : List (Int × Int)} {p : Int × Int}
  (hl : s.heap.IsList l items.toArray) (hps : All2 (IsPr s.heap) items ps) (hx : IsPr s.heap x p) (hs : Srt ps) (hsz : ps.length ≤ 1000) (hdp : dp + 5 < recursionLimit) (hun : un + 50 < cLine)
  (h : ∀ k t h' tk', Place ps p k → s.heap.StaysIn h' → Q (.int (k : Nat) t) {s with heap := h', toks := tk'}) :
  wpAny (model prog w) (AA dp un fr gd) (call (.ref 32) [.ref l, x, .int 0 t0, .none]) Q E s := by
  refine' call_raw (K := hd.heap_39 w.params) (binds := [("a", .ref l), ("x", x), ("lo", .int 0 t0), ("hi", .none), ("key", .none)]) X0 T0.nolimit ?k6 ?k7 ?k8 ?k9 ?kB ?c2 ?c3 ?c4 ?c5 ?_
  (case k6 => k_is)
  (case k7 => k_is)
  (case k8 => first | (simp only [depth_deeper]; omega) | omega)
  (case k9 => first | exact BindsTo.of_eq rfl | exact binds_K X0 rfl (by k_is) rfl rfl rfl | exact binds_KW X0 rfl (by k_is) rfl rfl rfl (by k_is) rfl)
  (case kB => exact locs rfl)
  (case c2 => exact rfl)
  (case c3 => exact rfl)
  (case c4 => exact rfl)
  (case c5 => decide)
  intro h₁ F1
  (try dsimp only)
  k_fold
  have N1 : News s.heap s.heap.objs.size h₁ [] := News.nil
  repeat' (first | (k_unfold; (try dsimp only)) | ((fail_if_success (with_reducible show wpAny _ _ (call (Value.builtin "list.append") _ _) _ _ _)); (fail_if_success (with_reducible show wpAny _ _ (subscriptTail _ (Expr.Slice _ _ _ _) (Value.ref _) (Value.ref _)) _ _ _)); (fail_if_success (with_reducible show wpAny _ _ (compareOp CmpOp.NotEq (Value.ref _) (Value.ref _)) _ _ _)); (fail_if_success (with_reducible show wpAny _ _ (compareOp CmpOp.Eq (Value.ref _) (Value.ref _)) _ _ _)); (fail_if_success (with_reducible show wpAny _ _ (compareOp CmpOp.Lt (Value.ref _) (Value.ref _)) _ _ _)); (fail_if_success (with_reducible show wpAny _ _ (call (Value.type "enumerate") _ _) _ _ _)); (fail_if_success (with_reducible show wpAny _ _ (exec (Stmt.While _ _ _ _) _) _ _ _)); (fail_if_success (with_reducible show wpAny _ _ (exec (Stmt.For _ _ _ _ _) _) _ _ _)); (fail_if_success (with_reducible show wpAny _ _ (call (Value.ref _) _ _) _ _ _)); (fail_if_success (with_reducible show wpAny _ _ (eval (Expr.ListComp _ _ _ _) _) _ _ _)); walk1; (try dsimp only)))
  refine len_list (F1.lst hl) ?_ ?_
  · have := hps.length; simp only [List.size_toArray]; omega
  repeat' (first | (k_unfold; (try dsimp only)) | ((fail_if_success (with_reducible show wpAny _ _ (call (Value.builtin "list.append") _ _) _ _ _)); (fail_if_success (with_reducible show wpAny _ _ (subscriptTail _ (Expr.Slice _ _ _ _) (Value.ref _) (Value.ref _)) _ _ _)); (fail_if_success (with_reducible show wpAny _ _ (compareOp CmpOp.NotEq (Value.ref _) (Value.ref _)) _ _ _)); (fail_if_success (with_reducible show wpAny _ _ (compareOp CmpOp.Eq (Value.ref _) (Value.ref _)) _ _ _)); (fail_if_success (with_reducible show wpAny _ _ (compareOp CmpOp.Lt (Value.ref _) (Value.ref _)) _ _ _)); (fail_if_success (with_reducible show wpAny _ _ (call (Value.type "enumerate") _ _) _ _ _)); (fail_if_success (with_reducible show wpAny _ _ (exec (Stmt.While _ _ _ _) _) _ _ _)); (fail_if_success (with_reducible show wpAny _ _ (exec (Stmt.For _ _ _ _ _) _) _ _ _)); (fail_if_success (with_reducible show wpAny _ _ (call (Value.ref _) _ _) _ _ _)); (fail_if_success (with_reducible show wpAny _ _ (eval (Expr.ListComp _ _ _ _) _) _ _ _)); walk1; (try dsimp only)))
  rename Fr _ _ _ _ => F2
  rename News _ _ _ _ => N2
  have hlen := hps.length
  refine While_inv2 (fun n m nx => ∃ (lo hi : Nat) (t t' : Tok) (u : Option Value), nx = [] ∧ lo ≤ hi ∧ hi ≤ ps.length ∧ n = hi - lo ∧ (∀ (i : Nat) (h : i < ps.length), i < lo → prLt ps[i] p = true) ∧
    (∀ (i : Nat) (h : i < ps.length), hi ≤ i → prLt ps[i] p = false) ∧
    m = fun y => if y = (Str.ofString "mid") then u else if y = (Str.ofString "lo") then some (.int (lo : Nat) t) else if y = (Str.ofString "hi") then some (.int (hi : Nat) t') else
      List.lookup y [((Str.ofString "a"), .ref l), ((Str.ofString "x"), x), ((Str.ofString "lo"), .int 0 t0), ((Str.ofString "hi"), .none), ((Str.ofString "key"), .none)].reverse) (n₀ := ps.length) F2 N2 ?_ ?_
  · refine' ⟨0, ps.length, _, _, none, rfl, Nat.zero_le _, Nat.le_refl _, rfl, fun i _ hi => absurd hi (Nat.not_lt_zero _), fun i h1 h2 => absurd h1 (Nat.not_lt.mpr h2), ?meq⟩
    case meq =>
      rw [← hlen]
      (funext y; first | rfl | ((try dsimp only); by_cases hh0 : y = (Str.ofString "mid"); (· subst hh0; rfl); by_cases hh1 : y = (Str.ofString "lo"); (· subst hh1; rfl); by_cases hh2 : y = (Str.ofString "hi"); (· subst hh2; rfl); simp only [hh0, hh1, hh2, if_false]))
  rintro n m nx h₃ tk₃ F3 N3 ⟨lo, hi, t, t', u, rfl, hle, hhi, rfl, hlo', hhi', rfl⟩
  k_fold
  repeat' (first | (k_unfold; (try dsimp only)) | ((fail_if_success (with_reducible show wpAny _ _ (call (Value.builtin "list.append") _ _) _ _ _)); (fail_if_success (with_reducible show wpAny _ _ (subscriptTail _ (Expr.Slice _ _ _ _) (Value.ref _) (Value.ref _)) _ _ _)); (fail_if_success (with_reducible show wpAny _ _ (compareOp CmpOp.NotEq (Value.ref _) (Value.ref _)) _ _ _)); (fail_if_success (with_reducible show wpAny _ _ (compareOp CmpOp.Eq (Value.ref _) (Value.ref _)) _ _ _)); (fail_if_success (with_reducible show wpAny _ _ (compareOp CmpOp.Lt (Value.ref _) (Value.ref _)) _ _ _)); (fail_if_success (with_reducible show wpAny _ _ (call (Value.type "enumerate") _ _) _ _ _)); (fail_if_success (with_reducible show wpAny _ _ (exec (Stmt.While _ _ _ _) _) _ _ _)); (fail_if_success (with_reducible show wpAny _ _ (exec (Stmt.For _ _ _ _ _) _) _ _ _)); (fail_if_success (with_reducible show wpAny _ _ (call (Value.ref _) _ _) _ _ _)); (fail_if_success (with_reducible show wpAny _ _ (eval (Expr.ListComp _ _ _ _) _) _ _ _)); walk1; (try dsimp only)))
  · rename Fr _ _ _ _ => F4
    have hlt : lo < hi := by
      have := ‹(lo : Int) < (hi : Int)›
      omega
    have hmid : ((lo : Int) + (hi : Int)).fdiv 2 = ((((lo + hi) / 2 : Nat)) : Int) := by
      rw [Int.fdiv_eq_ediv_of_nonneg _ (by decide)]; omega
    rw [hmid] at F4 ⊢
    have hm1 : lo ≤ (lo + hi) / 2 := by omega
    have hm2 : (lo + hi) / 2 < hi := by omega
    generalize (lo + hi) / 2 = mid at *
    obtain ⟨v, hv, hpr⟩ := hps.get (i := mid) (by omega)
    refine item_listL (F4.lst hl) (Int.natCast_nonneg _) (by omega) (by simpa using hv) ?_
    repeat' (first | (k_unfold; (try dsimp only)) | ((fail_if_success (with_reducible show wpAny _ _ (call (Value.builtin "list.append") _ _) _ _ _)); (fail_if_success (with_reducible show wpAny _ _ (subscriptTail _ (Expr.Slice _ _ _ _) (Value.ref _) (Value.ref _)) _ _ _)); (fail_if_success (with_reducible show wpAny _ _ (compareOp CmpOp.NotEq (Value.ref _) (Value.ref _)) _ _ _)); (fail_if_success (with_reducible show wpAny _ _ (compareOp CmpOp.Eq (Value.ref _) (Value.ref _)) _ _ _)); (fail_if_success (with_reducible show wpAny _ _ (compareOp CmpOp.Lt (Value.ref _) (Value.ref _)) _ _ _)); (fail_if_success (with_reducible show wpAny _ _ (call (Value.type "enumerate") _ _) _ _ _)); (fail_if_success (with_reducible show wpAny _ _ (exec (Stmt.While _ _ _ _) _) _ _ _)); (fail_if_success (with_reducible show wpAny _ _ (exec (Stmt.For _ _ _ _ _) _) _ _ _)); (fail_if_success (with_reducible show wpAny _ _ (call (Value.ref _) _ _) _ _ _)); (fail_if_success (with_reducible show wpAny _ _ (eval (Expr.ListComp _ _ _ _) _) _ _ _)); walk1; (try dsimp only)))
    refine lt_pr (by show un + 3 < cLine; omega) (hpr.keeps F4.keep) (hx.keeps F4.keep) ?_
    repeat' (first | (k_unfold; (try dsimp only)) | ((fail_if_success (with_reducible show wpAny _ _ (call (Value.builtin "list.append") _ _) _ _ _)); (fail_if_success (with_reducible show wpAny _ _ (subscriptTail _ (Expr.Slice _ _ _ _) (Value.ref _) (Value.ref _)) _ _ _)); (fail_if_success (with_reducible show wpAny _ _ (compareOp CmpOp.NotEq (Value.ref _) (Value.ref _)) _ _ _)); (fail_if_success (with_reducible show wpAny _ _ (compareOp CmpOp.Eq (Value.ref _) (Value.ref _)) _ _ _)); (fail_if_success (with_reducible show wpAny _ _ (compareOp CmpOp.Lt (Value.ref _) (Value.ref _)) _ _ _)); (fail_if_success (with_reducible show wpAny _ _ (call (Value.type "enumerate") _ _) _ _ _)); (fail_if_success (with_reducible show wpAny _ _ (exec (Stmt.While _ _ _ _) _) _ _ _)); (fail_if_success (with_reducible show wpAny _ _ (exec (Stmt.For _ _ _ _ _) _) _ _ _)); (fail_if_success (with_reducible show wpAny _ _ (call (Value.ref _) _ _) _ _ _)); (fail_if_success (with_reducible show wpAny _ _ (eval (Expr.ListComp _ _ _ _) _) _ _ _)); walk1; (try dsimp only)))
    · have hb : prLt ps[mid] p = true := by assumption
      rename Fr _ _ _ _ => F5
      rename News _ _ _ _ => N5
      refine wstep F5 N5 (n' := hi - (mid + 1)) (by omega) ?_
      refine' ⟨mid + 1, hi, _, t', some (.int (mid : Nat) (tk₃ + 1 + 1)), rfl, by omega, hhi, rfl, srt_lo hs _ hb, hhi', ?meq⟩
      case meq =>
       (funext y; first | rfl | ((try dsimp only); by_cases hh0 : y = (Str.ofString "mid"); (· subst hh0; rfl); by_cases hh1 : y = (Str.ofString "lo"); (· subst hh1; rfl); by_cases hh2 : y = (Str.ofString "hi"); (· subst hh2; rfl); simp only [hh0, hh1, hh2, if_false]))
    · have hb : prLt ps[mid] p = false := by assumption
      rename Fr _ _ _ _ => F5
      rename News _ _ _ _ => N5
      refine wstep F5 N5 (n' := mid - lo) (by omega) ?_
      refine' ⟨lo, mid, t, _, some (.int (mid : Nat) (tk₃ + 1 + 1)), rfl, by omega, by omega, rfl, hlo', srt_hi hs _ hb, ?meq⟩
      case meq =>
       (funext y; first | rfl | ((try dsimp only); by_cases hh0 : y = (Str.ofString "mid"); (· subst hh0; rfl); by_cases hh1 : y = (Str.ofString "lo"); (· subst hh1; rfl); by_cases hh2 : y = (Str.ofString "hi"); (· subst hh2; rfl); simp only [hh0, hh1, hh2, if_false]))
  · have hlt := ‹¬ (lo : Int) < (hi : Int)›
    have : lo = hi := by omega
    subst this
    exact h _ _ _ _ ⟨hhi, hlo', hhi'⟩ F3.keep

end Mine
end TBis
section TIns
set_option autoImplicit false
namespace Mine

theorem insort_spec {prog : Program} {w : World} {dp un : Nat} {fr : Option (List Env)} {gd : Option (List Code)} {E : Value → Shared → Prop} {s : Shared} {Q : Value → Shared → Prop} {mean : ExcName → Option Value} {mg mb : Str → Option Value} {g : Heap}
  (X0 : (hd.heap_39 w.params).In g) (T0 : Top hd.view_39 LS mean mg mb g) (hg : ∀ b o, g.get? b = some o → s.heap.get? b = some o) (hgs : g.objs.size ≤ s.heap.objs.size) {l : Addr} {x : Value} {items : List Value} {n : Nat} {ps : List (Int × Int)} {p : Int × Int}
  (hgl : g.get? l = none) (hl : s.heap.get? l = some (listOf items.toArray n)) (hps : All2 (IsPr s.heap) items ps) (hx : IsPr s.heap x p) (hs : Srt ps) (hsz : ps.length ≤ 900) (hdp : dp + 10 < recursionLimit) (hun : un + 90 < cLine)
  (h : ∀ k h' tk', Place ps p k → (∀ b o, b ≠ l → s.heap.get? b = some o → h'.get? b = some o) → h'.get? l = some (listOf (items.take k ++ x :: items.drop k).toArray (n + 1)) → Q .none {s with heap := h', toks := tk'}) :
  wpAny (model prog w) (AA dp un fr gd) (call (.ref 23) [.ref l, x]) Q E s := by
  have hgh : ∀ b o, g.get? b = some o → (Heap.hide s.heap l).get? b = some o := fun b o e => by
    have hb : b ≠ l := fun q => by rw [q, hgl] at e; cases e
    rw [Heap.hide_ne _ hb]; exact hg b o e
  replace X0 := X0.keeps hgh
  replace T0 := T0.keeps hgh
  clear hgh hg hgs hgl
  have hg : ∀ b o, (Heap.hide s.heap l).get? b = some o → s.heap.get? b = some o := fun b o e => Heap.of_hide e
  have hgs : (Heap.hide s.heap l).objs.size ≤ s.heap.objs.size := Nat.le_of_eq (Heap.hide_size _ _)
  have hgl := Heap.hide_self s.heap l
  refine' call_base (K := hd.heap_39 w.params) (binds := [("a", .ref l), ("x", x), ("lo", .int 0 189), ("hi", .none), ("key", .none)]) X0 T0.nolimit hg hgs ?k6 ?k7 ?k8 ?k9 ?kB ?c2 ?c3 ?c4 ?c5 ?_
  (case k6 => k_is)
  (case k7 => k_is)
  (case k8 => first | (simp only [depth_deeper]; omega) | omega)
  (case k9 => first | exact BindsTo.of_eq rfl | exact binds_K (X0.keeps hg) rfl (by k_is) rfl rfl rfl | exact binds_KW (X0.keeps hg) rfl (by k_is) rfl rfl rfl (by k_is) rfl)
  (case kB => exact locs rfl)
  (case c2 => exact rfl)
  (case c3 => exact rfl)
  (case c4 => exact rfl)
  (case c5 => decide)
  intro h₁ F1 up1
  (try dsimp only)
  k_fold
  have N1 : News (Heap.hide s.heap l) s.heap.objs.size h₁ [(l, listOf items.toArray n)] := by
    intro q hq
    rw [List.mem_singleton.mp hq]
    exact ⟨up1 _ _ hl, Nat.ne_of_lt (Heap.lt_size hl), hgl⟩
  repeat' (first | (k_unfold; (try dsimp only)) | ((fail_if_success (with_reducible show wpAny _ _ (call (Value.builtin "list.append") _ _) _ _ _)); (fail_if_success (with_reducible show wpAny _ _ (subscriptTail _ (Expr.Slice _ _ _ _) (Value.ref _) (Value.ref _)) _ _ _)); (fail_if_success (with_reducible show wpAny _ _ (compareOp CmpOp.NotEq (Value.ref _) (Value.ref _)) _ _ _)); (fail_if_success (with_reducible show wpAny _ _ (compareOp CmpOp.Eq (Value.ref _) (Value.ref _)) _ _ _)); (fail_if_success (with_reducible show wpAny _ _ (compareOp CmpOp.Lt (Value.ref _) (Value.ref _)) _ _ _)); (fail_if_success (with_reducible show wpAny _ _ (call (Value.type "enumerate") _ _) _ _ _)); (fail_if_success (with_reducible show wpAny _ _ (exec (Stmt.While _ _ _ _) _) _ _ _)); (fail_if_success (with_reducible show wpAny _ _ (exec (Stmt.For _ _ _ _ _) _) _ _ _)); (fail_if_success (with_reducible show wpAny _ _ (call (Value.ref _) _ _) _ _ _)); (fail_if_success (with_reducible show wpAny _ _ (eval (Expr.ListComp _ _ _ _) _) _ _ _)); walk1; (try dsimp only)))
  refine bis_spec (dp := dp + 1) (un := un + 3) (X0.keeps F1.keep) (T0.keeps F1.keep) (N1.isList (List.mem_singleton.mpr rfl)) (hps.mono fun _ _ q => q.keeps up1) (hx.keeps up1) hs (by omega) (by omega) (by omega) ?_
  intro k t h₂ tk₂ hk st
  have F2 := F1.keeps st
  have N2 := N1.keeps st
  repeat' (first | (k_unfold; (try dsimp only)) | ((fail_if_success (with_reducible show wpAny _ _ (call (Value.builtin "list.append") _ _) _ _ _)); (fail_if_success (with_reducible show wpAny _ _ (subscriptTail _ (Expr.Slice _ _ _ _) (Value.ref _) (Value.ref _)) _ _ _)); (fail_if_success (with_reducible show wpAny _ _ (compareOp CmpOp.NotEq (Value.ref _) (Value.ref _)) _ _ _)); (fail_if_success (with_reducible show wpAny _ _ (compareOp CmpOp.Eq (Value.ref _) (Value.ref _)) _ _ _)); (fail_if_success (with_reducible show wpAny _ _ (compareOp CmpOp.Lt (Value.ref _) (Value.ref _)) _ _ _)); (fail_if_success (with_reducible show wpAny _ _ (call (Value.type "enumerate") _ _) _ _ _)); (fail_if_success (with_reducible show wpAny _ _ (exec (Stmt.While _ _ _ _) _) _ _ _)); (fail_if_success (with_reducible show wpAny _ _ (exec (Stmt.For _ _ _ _ _) _) _ _ _)); (fail_if_success (with_reducible show wpAny _ _ (call (Value.ref _) _ _) _ _ _)); (fail_if_success (with_reducible show wpAny _ _ (eval (Expr.ListComp _ _ _ _) _) _ _ _)); walk1; (try dsimp only)))
  rename Fr _ _ _ _ => F3
  rename News _ _ _ _ => N3
  refine kl_insert F3 N3 (its := items.toArray) (n := n) (l := items.take k ++ x :: items.drop k) ?hf ?he (Upd.head (List.forall_mem_nil _)) ?hz ?_
  case hf =>
    have := hk.le
    simp [Builtin.List.listFitsIndex]; omega
  case he =>
    have := hk.le; have := hps.length
    have e1 : ¬ ((k : Int) < 0) := by omega
    have e2 : min (k : Int).toNat items.length = k := by simp; omega
    simp only [kl_ins, if_neg e1, e2]
  case hz => have := hps.length; simp [sizeLine_eq]; omega
  intro h₄ F4 N4
  dsimp only
  try k_fold
  repeat' (first | (k_unfold; (try dsimp only)) | ((fail_if_success (with_reducible show wpAny _ _ (call (Value.builtin "list.append") _ _) _ _ _)); (fail_if_success (with_reducible show wpAny _ _ (subscriptTail _ (Expr.Slice _ _ _ _) (Value.ref _) (Value.ref _)) _ _ _)); (fail_if_success (with_reducible show wpAny _ _ (compareOp CmpOp.NotEq (Value.ref _) (Value.ref _)) _ _ _)); (fail_if_success (with_reducible show wpAny _ _ (compareOp CmpOp.Eq (Value.ref _) (Value.ref _)) _ _ _)); (fail_if_success (with_reducible show wpAny _ _ (compareOp CmpOp.Lt (Value.ref _) (Value.ref _)) _ _ _)); (fail_if_success (with_reducible show wpAny _ _ (call (Value.type "enumerate") _ _) _ _ _)); (fail_if_success (with_reducible show wpAny _ _ (exec (Stmt.While _ _ _ _) _) _ _ _)); (fail_if_success (with_reducible show wpAny _ _ (exec (Stmt.For _ _ _ _ _) _) _ _ _)); (fail_if_success (with_reducible show wpAny _ _ (call (Value.ref _) _ _) _ _ _)); (fail_if_success (with_reducible show wpAny _ _ (eval (Expr.ListComp _ _ _ _) _) _ _ _)); walk1; (try dsimp only)))
  have hup : ∀ b o, b ≠ l → s.heap.get? b = some o → h₄.get? b = some o := fun b o hb e => F4.keep b o (by rw [Heap.hide_ne _ hb]; exact e)
  exact h k h₄ _ hk hup (N4 _ (List.mem_singleton.mpr rfl)).1

theorem ins_all2 {R : Value → Int × Int → Prop} {items : List Value} {ps : List (Int × Int)} {x : Value} {p : Int × Int} {k : Nat} (h : All2 R items ps) (hx : R x p) (hk : Place ps p k) : All2 R (items.take k ++ x :: items.drop k) (ins p ps) := by
  rw [← ins_place hk]
  exact (h.take k).append (.cons hx (h.drop k))

end Mine
end TIns
section TLoo
namespace Mine

def TurnQ (h₀ : Heap) (L : Addr) (wr : List Addr) (own : List (Addr × Obj)) (J : (Str → Option Value) → List (Addr × Obj) → Prop) (s₁ : Shared) (Q : Flow → Shared → Prop) (f : Flow) (s₂ : Shared) : Prop :=
  match f with
  | .ret v => Q (.ret v) s₂
  | .brk => Q .next s₂
  | _ => ∃ h' tk m' nx, s₂ = { s₁ with heap := h', toks := tk } ∧ Fr h₀ L h' m' ∧ News h₀ L h' (own ++ nx) ∧ (∀ q ∈ nx, q.1 ∉ wr) ∧ J m' nx

theorem TurnQ.intro {h₀ : Heap} {L : Addr} {wr : List Addr} {own : List (Addr × Obj)} {J : (Str → Option Value) → List (Addr × Obj) → Prop} {s₁ : Shared} {Q : Flow → Shared → Prop} {h' : Heap} {tk : Nat} {m' : Str → Option Value} {nx : List (Addr × Obj)}
    (F : Fr h₀ L h' m') (N : News h₀ L h' (own ++ nx)) (hw : ∀ q ∈ nx, q.1 ∉ wr) (hJ : J m' nx) : TurnQ h₀ L wr own J s₁ Q .next { s₁ with heap := h', toks := tk } := ⟨h', tk, m', nx, rfl, F, N, hw, hJ⟩

section
variable {prog : Program} {w : World} {A : Around} {E : Value → Shared → Prop} {s s₂ : Shared} {h₀ : Heap} {env : Env} {target : Expr} {body : List Stmt} {Q : Flow → Shared → Prop}

theorem my_for {I : Addr} {fp wr : List Addr} {n : Nat} {P Md : Nat → Value → Heap → Prop} {St : Nat → Heap → Prop} {m : Str → Option Value} {news : List (Addr × Obj)}
    (W : KTurns prog w A target I fp wr n P Md St) (hex : ∀ i h, St i h → ∀ b ∈ wr, ∃ o, h.get? b = some o)
    (hLf : env.locals ∉ fp) (hwr : ∀ b ∈ wr, h₀.get? b = none) (hnw : ∀ p ∈ news, p.1 ∉ wr) (hst : St 0 s₂.heap) (F : Fr h₀ env.locals s₂.heap m) (N : News h₀ env.locals s₂.heap news)
    (J : Nat → (Str → Option Value) → List (Addr × Obj) → Prop) (h0 : J 0 m news) (mu : List Addr) (hmut : ∀ a ∈ mu, a ∉ fp)
    (step : ∀ i v m₁ nx h tk own, i < n → P i v h → J i m₁ nx → (∀ q ∈ nx, q.1 ∉ wr) → (∀ b ∈ wr, ∃ o, (b, o) ∈ own) → (∀ p ∈ own, ∀ a ∈ mu, p.1 ≠ a) → Fr h₀ env.locals h m₁ → News h₀ env.locals h (own ++ nx) →
      wpAny (model prog w) A (assign target env v) (fun _ s₃ => wpAny (model prog w) A (execs body env) (TurnQ h₀ env.locals wr own (J (i + 1)) s₂ Q) E s₃) E { s₂ with heap := h, toks := tk })
    (done : ∀ h' tk m' nx, Fr h₀ env.locals h' m' → News h₀ env.locals h' nx → J n m' nx → Q .next { s₂ with heap := h', toks := tk }) :
    TurnsAt prog w A h₀ env target body Q E (.ref I) s₂ := by
  refine ⟨I, fp, wr, n, P, Md, St, m, news, J, rfl, W, hLf, hwr, hnw, hst, F, N, h0, ?_, fun h' tk m' nx F' N' _ hJ => done h' tk m' nx F' N' hJ⟩
  intro i v m₁ news₁ h₁ tk₁ own hi hP hJ hnw₁ hown hget hfp hst₁ F₁ N₁
  refine wpAny_mono (step i v m₁ news₁ h₁ tk₁ own hi hP hJ hnw₁ (fun b hb => ?_) (fun p hp a ha e => hmut a ha (e ▸ hown p hp)) F₁ N₁) (fun _ s₃ q => wpAny_mono q (fun f s₄ q => ?_) fun _ _ x => x) fun _ _ x => x
  · obtain ⟨o, ho⟩ := hex _ _ hst₁ b hb
    exact ⟨o, hfp b (W.sub b hb) (hwr b hb) o ho⟩
  · cases f with
    | ret v => exact .ret q
    | brk => exact .brk q
    | cont =>
      obtain ⟨h', tk, m', nx, rfl, F', N', hw, hJ'⟩ := q
      exact ⟨rfl, h', tk, m', nx, rfl, F', N', hw, hJ'⟩
    | next =>
      obtain ⟨h', tk, m', nx, rfl, F', N', hw, hJ'⟩ := q
      exact ⟨rfl, h', tk, m', nx, rfl, F', N', hw, hJ'⟩

theorem assign_name {x : Str} {px : Pos} {v : Value} {Q : Unit → Shared → Prop} {m : Str → Option Value} {news : List (Addr × Obj)} (hx : env.kindOf x = some .local)
    (hp : (env.scope.kind == .class || (env.scope.kind == .module && env.locals != env.globals)) = false)
    (F : Fr h₀ env.locals s.heap m) (N : News h₀ env.locals s.heap news)
    (h : ∀ h' tk, Fr h₀ env.locals h' (fun y => if y = x then some v else m y) → News h₀ env.locals h' news → Q () { s with heap := h', toks := tk }) :
    wpAny (model prog w) A (assign (.Name x px) env v) Q E s :=
  wpAny_assign_Name (wpAny_storeName_local hx F.ns (fun h' hn hs => h h' _ (F.set hn hs) (N.set hs)) hp)

theorem assign_pair {xi xc : Str} {pk pv pt : Pos} {x1 : Nat} {T : Addr} {v0 v1 : Value} {Q : Unit → Shared → Prop} {m : Str → Option Value} {news : List (Addr × Obj)} (hh : A.handled = none)
    (hxi : env.kindOf xi = some .local) (hxc : env.kindOf xc = some .local)
    (hp : (env.scope.kind == .class || (env.scope.kind == .module && env.locals != env.globals)) = false)
    (F : Fr h₀ env.locals s.heap m) (N : News h₀ env.locals s.heap news) (hT : s.heap.IsTuple T #[v0, v1])
    (h : ∀ h' tk, Fr h₀ env.locals h' (fun y => if y = xc then some v1 else if y = xi then some v0 else m y) → News h₀ env.locals h' news → Q () { s with heap := h', toks := tk }) :
    wpAny (model prog w) A (assign (.Tuple [.Name xi pk, .Name xc pv] x1 pt) env (.ref T)) Q E s := by
  refine wpAny_assign_Tuple hh hT rfl rfl fun h₃ hx₃ => ?_
  replace hx₃ : Heap.ExtBut s.heap.objs.size s.heap h₃ := hx₃
  have up₃ : ∀ b o, s.heap.get? b = some o → h₃.get? b = some o := fun b o x => hx₃ b o (Nat.ne_of_lt (Heap.lt_size x)) x
  have F₃ := F.keeps up₃
  have N₃ := N.keeps up₃
  show wpAny _ A (do holding [v1] (assign (.Name xi pk) env v0); do holding [] (assign (.Name xc pv) env v1); pure ()) _ _ _
  refine wpAny_bind (wpAny_holding (wpAny_assign_Name (wpAny_storeName_local hxi F₃.ns (fun h₄ hn₄ hs₄ => ?_) hp)))
  replace hs₄ : Heap.SameBut env.locals h₃ h₄ := hs₄
  have F₄ := F₃.set hn₄ hs₄
  have N₄ := N₃.set hs₄
  refine wpAny_bind (wpAny_holding (wpAny_assign_Name (wpAny_storeName_local hxc F₄.ns (fun h₅ hn₅ hs₅ => wpAny_pure ?_) hp)))
  exact h h₅ _ (F₄.set hn₅ hs₅) (N₄.set hs₅)
end

section
variable {prog : Program} {w : World} {A : Around} {E : Value → Shared → Prop} {s : Shared} {h₀ : Heap} {env : Env} {body : List Stmt} {Q : Flow → Shared → Prop} {m : Str → Option Value} {news : List (Addr × Obj)}

/-- for xi, xc in enumerate(l), l a list of the base -/
theorem for_enum {xi xc : Str} {pk pv pt : Pos} {x1 : Nat} {l : Addr} {vs : List Value} (hh : A.handled = none)
    (hxi : env.kindOf xi = some .local) (hxc : env.kindOf xc = some .local)
    (hp : (env.scope.kind == .class || (env.scope.kind == .module && env.locals != env.globals)) = false)
    (hl : h₀.IsList l vs.toArray) (F : Fr h₀ env.locals s.heap m) (N : News h₀ env.locals s.heap news)
    (J : Nat → (Str → Option Value) → List (Addr × Obj) → Prop) (h0 : J 0 m news)
    (mu : List Addr) (hmut : ∀ a ∈ mu, ∃ o, (a, o) ∈ news)
    (step : ∀ i v t m₁ nx h tk own wr, vs[i]? = some v → J i m₁ nx → (∀ q ∈ nx, q.1 ∉ wr) → (∀ b ∈ wr, ∃ o, (b, o) ∈ own) → (∀ p ∈ own, ∀ a ∈ mu, p.1 ≠ a) →
      Fr h₀ env.locals h (fun y => if y = xc then some v else if y = xi then some (.int (i : Nat) t) else m₁ y) → News h₀ env.locals h (own ++ nx) →
      wpAny (model prog w) A (execs body env) (TurnQ h₀ env.locals wr own (J (i + 1)) s Q) E { s with heap := h, toks := tk })
    (done : ∀ h' tk m' nx, Fr h₀ env.locals h' m' → News h₀ env.locals h' nx → J vs.length m' nx → Q .next { s with heap := h', toks := tk }) :
    wpAny (model prog w) A (call (.type "enumerate") [.ref l]) (fun xv s₁ => wpAny (model prog w) A (pyIter xv) (fun it s₂ => TurnsAt prog w A h₀ env (.Tuple [.Name xi pk, .Name xc pv] x1 pt) body Q E it s₂) E s₁) E s := by
  have hls : s.heap.IsList l vs.toArray := hl.at fun o e => F.keep l o e
  obtain ⟨ol, hol, _⟩ := id hl
  have hlt : l < h₀.objs.size := Heap.lt_size hol
  have hLs : env.locals < s.heap.objs.size := F.ns.lt
  have hab : h₀.objs.size ≤ env.locals := F.above
  refine call_enumerate_list hls fun h' he hit hsz hk => ?_
  have F' := F.keeps hk
  have N' := N.keeps hk
  refine wpAny_pyIter_enum he ?_
  have hl2 : l < s.heap.objs.size := Nat.lt_trans (Nat.lt_of_lt_of_le hlt hab) hLs
  have W := KTurns.ofWalksU (elts := [.Name xi pk, .Name xc pv]) (k := x1) (pos := pt) (WalksT.toU (WalksT.enumerate (prog := prog) (w := w) hh (s.heap.objs.size + 1) s.heap.objs.size l (Nat.succ_ne_self _) (Nat.ne_of_lt (Nat.lt_succ_of_lt hl2)) (Nat.ne_of_lt hl2) vs.toArray))
  have hnews : ∀ q ∈ news, q.1 < s.heap.objs.size := fun q hq => Heap.lt_size (N q hq).1
  refine my_for W ?_ ?_ ?_ ?_ ⟨⟨_, he⟩, hit, hls.at fun o e => hk l o e⟩ F' N' J h0 mu ?_ ?_ ?_
  · rintro i h ⟨⟨old, he⟩, ⟨o, ho, _⟩, _⟩ b hb
    rcases List.mem_cons.mp hb with rfl | hb
    · exact ⟨_, he⟩
    · rw [List.mem_singleton.mp hb]; exact ⟨o, ho⟩
  · intro hm
    rcases List.mem_cons.mp hm with e | hm
    · exact absurd (e ▸ hLs) (Nat.not_lt.mpr (Nat.le_succ _))
    · rcases List.mem_cons.mp hm with e | hm
      · exact absurd (e ▸ hLs) (Nat.lt_irrefl _)
      · exact absurd (Nat.lt_of_lt_of_le hlt hab) ((List.mem_singleton.mp hm) ▸ Nat.lt_irrefl _)
  · intro b hb
    rcases List.mem_cons.mp hb with rfl | hb
    · exact Heap.get?_none_of_le (Nat.le_trans hab (Nat.le_of_lt (Nat.lt_succ_of_lt hLs)))
    · rw [List.mem_singleton.mp hb]; exact Heap.get?_none_of_le (Nat.le_trans hab (Nat.le_of_lt hLs))
  · intro p hp hm
    have := hnews p hp
    rcases List.mem_cons.mp hm with e | hm
    · exact absurd (e ▸ this) (Nat.not_lt.mpr (Nat.le_succ _))
    · exact absurd ((List.mem_singleton.mp hm) ▸ this) (Nat.lt_irrefl _)
  · intro a ha hm
    obtain ⟨o, ho⟩ := hmut a ha
    have := hnews _ ho
    rcases List.mem_cons.mp hm with e | hm
    · subst e; exact absurd this (Nat.not_lt.mpr (Nat.le_succ _))
    · rcases List.mem_cons.mp hm with e | hm
      · subst e; exact absurd this (Nat.lt_irrefl _)
      · have e := List.mem_singleton.mp hm
        subst e
        have := (N _ ho).2.2
        rw [hol] at this; cases this
  · rintro i v m₁ nx h tk own hi ⟨T, vals, rfl, ⟨t, x, hx, rfl⟩, hT⟩ hJ hnw hown hoff F₁ N₁
    refine assign_pair hh hxi hxc hp F₁ N₁ hT fun h₂ tk₂ F₂ N₂ => ?_
    exact step i x t m₁ nx h₂ tk₂ own _ (by simpa using hx) hJ hnw hown hoff F₂ N₂
  · intro h' tk m' nx F' N' hJ
    exact done h' tk m' nx F' N' (by simpa using hJ)

/-- for xi, xc in l, l a list of pairs -/
theorem for_pairs {xi xc : Str} {pk pv pt : Pos} {x1 : Nat} {l : Addr} {vs : List Value} {R : Nat → Value → Value → Prop} (hh : A.handled = none)
    (hxi : env.kindOf xi = some .local) (hxc : env.kindOf xc = some .local)
    (hp : (env.scope.kind == .class || (env.scope.kind == .module && env.locals != env.globals)) = false)
    (hls : s.heap.IsList l vs.toArray) (hlL : l ≠ env.locals) (F : Fr h₀ env.locals s.heap m) (N : News h₀ env.locals s.heap news)
    (J : Nat → (Str → Option Value) → List (Addr × Obj) → Prop) (h0 : J 0 m news)
    (mu : List Addr) (hmut : ∀ a ∈ mu, a ≠ l ∧ ∃ o, (a, o) ∈ news)
    (hit : ∀ j v, vs[j]? = some v → ∃ T a b, v = .ref T ∧ T ≠ env.locals ∧ T ∉ mu ∧ s.heap.IsTuple T #[a, b] ∧ R j a b)
    (step : ∀ i v0 v1 m₁ nx h tk own wr, i < vs.length → R i v0 v1 → J i m₁ nx → (∀ q ∈ nx, q.1 ∉ wr) → (∀ b ∈ wr, ∃ o, (b, o) ∈ own) → (∀ p ∈ own, ∀ a ∈ mu, p.1 ≠ a) →
      Fr h₀ env.locals h (fun y => if y = xc then some v1 else if y = xi then some v0 else m₁ y) → News h₀ env.locals h (own ++ nx) →
      wpAny (model prog w) A (execs body env) (TurnQ h₀ env.locals wr own (J (i + 1)) s Q) E { s with heap := h, toks := tk })
    (done : ∀ h' tk m' nx, Fr h₀ env.locals h' m' → News h₀ env.locals h' nx → J vs.length m' nx → Q .next { s with heap := h', toks := tk }) :
    wpAny (model prog w) A (pyIter (.ref l)) (fun it s₂ => TurnsAt prog w A h₀ env (.Tuple [.Name xi pk, .Name xc pv] x1 pt) body Q E it s₂) E s := by
  have hLs : env.locals < s.heap.objs.size := F.ns.lt
  obtain ⟨ol, hol, _⟩ := id hls
  have hne : l ≠ s.heap.objs.size := Nat.ne_of_lt (Heap.lt_size hol)
  have ex : ∀ j, ∃ T a b, j < vs.length → vs[j]? = some (.ref T) ∧ T ≠ env.locals ∧ T ∉ mu ∧ s.heap.IsTuple T #[a, b] ∧ R j a b := by
    intro j
    by_cases hj : j < vs.length
    · obtain ⟨T, a, b, e, h1, h2, h3, h4⟩ := hit j vs[j] (List.getElem?_eq_getElem hj)
      exact ⟨T, a, b, fun _ => ⟨by rw [List.getElem?_eq_getElem hj, e], h1, h2, h3, h4⟩⟩
    · exact ⟨0, .none, .none, fun h => absurd h hj⟩
  obtain ⟨Ts, hTs⟩ := Classical.axiomOfChoice ex
  obtain ⟨as, has⟩ := Classical.axiomOfChoice hTs
  obtain ⟨bs, hbs⟩ := Classical.axiomOfChoice has
  have hsz : vs.toArray.size = vs.length := by simp
  have W := KTurns.ofWalksU (elts := [.Name xi pk, .Name xc pv]) (k := x1) (pos := pt) (WalksU.bound (WalksU.listOfTuples (prog := prog) (w := w) hh s.heap.objs.size l hne vs.toArray Ts (fun j => #[as j, bs j])
    (fun j hj => by simpa using (hbs j (by simpa using hj)).1) (fun j hj => by
      obtain ⟨o, ho, _⟩ := (hbs j (by simpa using hj)).2.2.2.1
      exact Nat.ne_of_lt (Heap.lt_size ho))))
  have hnews : ∀ q ∈ news, q.1 < s.heap.objs.size := fun q hq => Heap.lt_size (N q hq).1
  refine wpAny_pyIter_list hls ?_
  have up : ∀ b o, s.heap.get? b = some o → (s.heap.push { cls := .type "list_iterator", data := .fields #[.ref l, .int 0 0] }).get? b = some o := fun b o e => Heap.get?_push_of_some _ e
  have F' := F.push ({ cls := .type "list_iterator", data := .fields #[.ref l, .int 0 0] } : Obj)
  have N' : News h₀ env.locals _ news := fun p hp => ⟨up _ _ (N p hp).1, (N p hp).2⟩
  refine my_for W ?_ ?_ ?_ ?_ ⟨⟨_, Heap.get?_push_size _ rfl, rfl, rfl⟩, hls.at fun o e => up l o e, fun k hk => (hbs k (by simpa using hk)).2.2.2.1.at fun o e => up _ o e⟩ F' N' J h0 mu ?_ ?_ ?_
  · rintro i h ⟨⟨o, ho, _⟩, _⟩ b hb
    rw [List.mem_singleton.mp hb]; exact ⟨o, ho⟩
  · intro hm
    rcases List.mem_cons.mp hm with e | hm
    · exact absurd (e ▸ hLs) (Nat.lt_irrefl _)
    · rcases List.mem_cons.mp hm with e | hm
      · exact hlL e.symm
      · obtain ⟨k, hk, e⟩ := List.mem_map.mp hm
        exact (hbs k (by simpa using hk)).2.1 e
  · intro b hb
    rw [List.mem_singleton.mp hb]; exact Heap.get?_none_of_le (Nat.le_trans F.above (Nat.le_of_lt hLs))
  · intro p hp hm
    have := hnews p hp
    exact absurd ((List.mem_singleton.mp hm) ▸ this) (Nat.lt_irrefl _)
  · intro a ha hm
    obtain ⟨hal, o, ho⟩ := hmut a ha
    have := hnews _ ho
    rcases List.mem_cons.mp hm with e | hm
    · subst e; exact absurd this (Nat.lt_irrefl _)
    · rcases List.mem_cons.mp hm with e | hm
      · exact hal e
      · obtain ⟨k, hk, e⟩ := List.mem_map.mp hm
        exact (hbs k (by simpa using hk)).2.2.1 (e ▸ ha)
  · rintro i v m₁ nx h tk own hi ⟨T, vals, rfl, ⟨hi', rfl⟩, hT⟩ hJ hnw hown hoff F₁ N₁
    refine assign_pair hh hxi hxc hp F₁ N₁ hT fun h₂ tk₂ F₂ N₂ => ?_
    rw [hsz] at hi
    exact step i _ _ m₁ nx h₂ tk₂ own _ hi (hbs i hi).2.2.2.2 hJ hnw hown hoff F₂ N₂
  · intro h' tk m' nx F' N' hJ
    exact done h' tk m' nx F' N' (by rwa [hsz] at hJ)

/-- for x in l, l a list -/
theorem for_list {x : Str} {px : Pos} {l : Addr} {vs : List Value} (hh : A.handled = none) (hx : env.kindOf x = some .local)
    (hp : (env.scope.kind == .class || (env.scope.kind == .module && env.locals != env.globals)) = false)
    (hls : s.heap.IsList l vs.toArray) (hlL : l ≠ env.locals) (F : Fr h₀ env.locals s.heap m) (N : News h₀ env.locals s.heap news)
    (J : Nat → (Str → Option Value) → List (Addr × Obj) → Prop) (h0 : J 0 m news)
    (mu : List Addr) (hmut : ∀ a ∈ mu, a ≠ l ∧ ∃ o, (a, o) ∈ news)
    (step : ∀ i v m₁ nx h tk own wr, vs[i]? = some v → J i m₁ nx → (∀ q ∈ nx, q.1 ∉ wr) → (∀ b ∈ wr, ∃ o, (b, o) ∈ own) → (∀ p ∈ own, ∀ a ∈ mu, p.1 ≠ a) →
      Fr h₀ env.locals h (fun y => if y = x then some v else m₁ y) → News h₀ env.locals h (own ++ nx) →
      wpAny (model prog w) A (execs body env) (TurnQ h₀ env.locals wr own (J (i + 1)) s Q) E { s with heap := h, toks := tk })
    (done : ∀ h' tk m' nx, Fr h₀ env.locals h' m' → News h₀ env.locals h' nx → J vs.length m' nx → Q .next { s with heap := h', toks := tk }) :
    wpAny (model prog w) A (pyIter (.ref l)) (fun it s₂ => TurnsAt prog w A h₀ env (.Name x px) body Q E it s₂) E s := by
  have hLs : env.locals < s.heap.objs.size := F.ns.lt
  obtain ⟨ol, hol, _⟩ := id hls
  have hne : l ≠ s.heap.objs.size := Nat.ne_of_lt (Heap.lt_size hol)
  have hsz : vs.toArray.size = vs.length := by simp
  have W := KTurns.ofWalks (target := .Name x px) (Walks.list (prog := prog) (w := w) hh s.heap.objs.size l hne vs.toArray) (fun i v s Q E _ hq => wpAny_pure hq)
  have hnews : ∀ q ∈ news, q.1 < s.heap.objs.size := fun q hq => Heap.lt_size (N q hq).1
  refine wpAny_pyIter_list hls ?_
  have up : ∀ b o, s.heap.get? b = some o → (s.heap.push { cls := .type "list_iterator", data := .fields #[.ref l, .int 0 0] }).get? b = some o := fun b o e => Heap.get?_push_of_some _ e
  have F' := F.push ({ cls := .type "list_iterator", data := .fields #[.ref l, .int 0 0] } : Obj)
  have N' : News h₀ env.locals _ news := fun p hp => ⟨up _ _ (N p hp).1, (N p hp).2⟩
  refine my_for W ?_ ?_ ?_ ?_ ⟨⟨_, Heap.get?_push_size _ rfl, rfl, rfl⟩, hls.at fun o e => up l o e⟩ F' N' J h0 mu ?_ ?_ ?_
  · rintro i h ⟨⟨o, ho, _⟩, _⟩ b hb
    rw [List.mem_singleton.mp hb]; exact ⟨o, ho⟩
  · intro hm
    rcases List.mem_cons.mp hm with e | hm
    · exact absurd (e ▸ hLs) (Nat.lt_irrefl _)
    · exact hlL (List.mem_singleton.mp hm).symm
  · intro b hb
    rw [List.mem_singleton.mp hb]; exact Heap.get?_none_of_le (Nat.le_trans F.above (Nat.le_of_lt hLs))
  · intro p hp hm
    have := hnews p hp
    exact absurd ((List.mem_singleton.mp hm) ▸ this) (Nat.lt_irrefl _)
  · intro a ha hm
    obtain ⟨hal, o, ho⟩ := hmut a ha
    have := hnews _ ho
    rcases List.mem_cons.mp hm with e | hm
    · subst e; exact absurd this (Nat.lt_irrefl _)
    · exact hal (List.mem_singleton.mp hm)
  · rintro i v m₁ nx h tk own hi hP hJ hnw hown hoff F₁ N₁
    refine assign_name hx hp F₁ N₁ fun h₂ tk₂ F₂ N₂ => ?_
    exact step i v m₁ nx h₂ tk₂ own _ (by simpa using hP) hJ hnw hown hoff F₂ N₂
  · intro h' tk m' nx F' N' hJ
    exact done h' tk m' nx F' N' (by rwa [hsz] at hJ)
end
section
variable {prog : Program} {w : World} {A : Around} {E : Value → Shared → Prop} {s : Shared} {h₀ : Heap} {env : Env} {body : List Stmt} {Q : Flow → Shared → Prop} {m : Str → Option Value} {news : List (Addr × Obj)}
/-- for x in range(a₀, ..), n turns; the target's store is the user's -/
theorem for_range {x : Str} {px : Pos} {r : Addr} {a₀ b₀ : Int} {t₀ u₀ v₀ : Tok} {n : Nat} (hh : A.handled = none)
    (hr : IsRange s.heap r a₀ b₀ 1 t₀ u₀ v₀) (hsmall : Builtin.Range.small a₀ b₀ 1 = true) (hsz : Builtin.Range.rangeSize a₀ b₀ 1 = (n : Int)) (F : Fr h₀ env.locals s.heap m) (N : News h₀ env.locals s.heap news)
    (J : Nat → (Str → Option Value) → List (Addr × Obj) → Prop) (h0 : J 0 m news)
    (mu : List Addr) (hmut : ∀ a ∈ mu, ∃ o, (a, o) ∈ news)
    (step : ∀ i t m₁ nx h tk own wr, i < n → J i m₁ nx → (∀ q ∈ nx, q.1 ∉ wr) → (∀ b ∈ wr, ∃ o, (b, o) ∈ own) → (∀ p ∈ own, ∀ a ∈ mu, p.1 ≠ a) →
      Fr h₀ env.locals h m₁ → News h₀ env.locals h (own ++ nx) →
      wpAny (model prog w) A (assign (.Name x px) env (.int (a₀ + (i : Nat)) t)) (fun _ s₃ => wpAny (model prog w) A (execs body env) (TurnQ h₀ env.locals wr own (J (i + 1)) s Q) E s₃) E { s with heap := h, toks := tk })
    (done : ∀ h' tk m' nx, Fr h₀ env.locals h' m' → News h₀ env.locals h' nx → J n m' nx → Q .next { s with heap := h', toks := tk }) :
    wpAny (model prog w) A (pyIter (.ref r)) (fun it s₂ => TurnsAt prog w A h₀ env (.Name x px) body Q E it s₂) E s := by
  have hLs : env.locals < s.heap.objs.size := F.ns.lt
  refine wpAny_pyIter_range hr hsmall ?_
  have W0 : Walks prog w A s.heap.objs.size [s.heap.objs.size] [s.heap.objs.size] n (fun i v => i < n ∧ ∃ t, v = .int (a₀ + (i : Nat) * 1) t)
      (fun i h => IsRangeIter h s.heap.objs.size (a₀ + (i : Nat) * 1) ((n : Int) - (i : Nat)) 1) := (Walks.range hh _ a₀ 1 n).bound
  have W := KTurns.ofWalks (target := .Name x px) W0 (fun i v s Q E _ hq => wpAny_pure hq)
  have hnews : ∀ q ∈ news, q.1 < s.heap.objs.size := fun q hq => Heap.lt_size (N q hq).1
  refine my_for W ?_ ?_ ?_ ?_ (by show IsRangeIter _ _ _ _ _; rw [hsz]; simpa using Heap.get?_push_size _ rfl) (F.push _) (fun p hp => ⟨Heap.get?_push_of_some _ (N p hp).1, (N p hp).2⟩) J h0 mu ?_ ?_ ?_
  · rintro i h ho b hb
    rw [List.mem_singleton.mp hb]; exact ⟨_, ho⟩
  · intro hm
    exact absurd hLs ((List.mem_singleton.mp hm) ▸ Nat.lt_irrefl _)
  · intro b hb
    rw [List.mem_singleton.mp hb]; exact Heap.get?_none_of_le (Nat.le_trans F.above (Nat.le_of_lt hLs))
  · intro p hp hm
    have := hnews p hp
    exact absurd ((List.mem_singleton.mp hm) ▸ this) (Nat.lt_irrefl _)
  · intro a ha hm
    obtain ⟨o, ho⟩ := hmut a ha
    have := hnews _ ho
    have e := List.mem_singleton.mp hm
    subst e; exact absurd this (Nat.lt_irrefl _)
  · rintro i v m₁ nx h tk own hi ⟨_, t, rfl⟩ hJ hnw hown hoff F₁ N₁
    have e1 : a₀ + (i : Int) * 1 = a₀ + (i : Int) := by omega
    rw [e1]
    exact step i t m₁ nx h tk own _ hi hJ hnw hown hoff F₁ N₁
  · intro h' tk m' nx F' N' hJ
    exact done h' tk m' nx F' N' hJ
end
section
variable {prog : Program} {w : World} {A : Around} {E : Value → Shared → Prop} {s : Shared}
theorem ne_nil {a b : Addr} {items : List Value} {Q : Value → Shared → Prop} (ha : s.heap.IsList a items.toArray) (hb : s.heap.IsList b #[]) (hu : A.units < cLine) (h : Q (.bool (!items.isEmpty)) s) :
    wpAny (model prog w) A (compareOp .NotEq (.ref a) (.ref b)) Q E s := by
  show wpAny (model prog w) A (richCompare .NotEq (.ref a) (.ref b)) Q E s
  cases items with
  | nil => exact SeqAt.RcNeAt.lists (e := fun _ => true) ha hb rfl hu (fun j h1 _ => absurd h1 (Nat.not_lt_zero _)) prog w E Q (by simpa using h)
  | cons x r => exact SeqAt.RcNeAt.lists_lengths ha hb (by simp) hu prog w E Q (by simpa using h)
theorem item_last {value slice : Expr} {l : Addr} {items : List Value} {v : Value} {u : Tok} {Q : Value → Shared → Prop} (hl : s.heap.IsList l (items ++ [v]).toArray) (hsz : items.length < 2 ^ 60)
    (h : Q v s)
    (hs : subscripted slice false (.ref l) (.int (-1) u) = operate [.ref l, .int (-1) u] (getItem (.ref l) (.int (-1) u))) (hg : ∀ r, letTemporaryGo value (.ref l) r = pure ()) :
    wpAny (model prog w) A (subscriptTail value slice (.ref l) (.int (-1) u)) Q E s :=
  subscriptTail_builtin hl.typeIs slot_list_getitem.lookup (wpAny_getItem_list_neg hl (by decide) (by simp; omega) (by decide) (by
    have e : (-1 + (((items ++ [v]).toArray.size : Nat) : Int)).toNat = items.length := by simp; omega
    rw [e]; simp) h) hs hg
end
section
variable {prog : Program} {w : World} {A : Around} {E : Value → Shared → Prop} {hp h₀ : Heap} {gs : Array GenState} {dr : Drawn} {tk : Nat} {os : OsState} {L l : Addr} {m : Str → Option Value} {news : List (Addr × Obj)} {value slice : PySem.Expr} {its : List Value} {vl vu vk : Value} {lo hi : Option Int} {Q : Value → Shared → Prop}
theorem slice_lit (F : Fr h₀ L hp m) (N : News h₀ L hp news) (hl : hp.IsList l its.toArray) (pl : IsPart vl lo) (pu : IsPart vu hi)
    (h : ∀ D h', Fr h₀ L h' m → News h₀ L h' ((D, listOf (kms_pick its lo hi).toArray 0) :: news) → (∀ p ∈ news, p.1 < D) → Q (.ref D) ⟨h', gs, dr, tk, os⟩)
    (hs : subscripted slice false (.ref l) (.ref hp.objs.size) = operate [.ref hp.objs.size, .ref l] (getItem (.ref l) (.ref hp.objs.size))) (ht : ∀ r, letTemporaryGo value (.ref l) r = pure ()) (hz : its.length ≤ sizeLine) :
    wpAny (model prog w) A (subscriptTail value slice (.ref l) (.ref hp.objs.size)) Q E ⟨hp.push { cls := .type "slice", data := .fields #[vl, vu, .none] }, gs, dr, tk, os⟩ :=
  kms_slice_lit (s := ⟨hp, gs, dr, tk, os⟩) F N hl pl pu rfl h hs ht (by simpa using hz)
theorem slice_rev {ops : List Value} (F : Fr h₀ L hp m) (N : News h₀ L hp news) (hl : hp.IsList l its.toArray) (pk : IsPart vk (some (-1)))
    (h : ∀ D h', Fr h₀ L h' m → News h₀ L h' ((D, listOf its.reverse.toArray 0) :: news) → (∀ p ∈ news, p.1 < D) → Q (.ref D) ⟨h', gs, dr, tk, os⟩)
    (hs : subscripted slice false (.ref l) (.ref hp.objs.size) = operate ops (getItem (.ref l) (.ref hp.objs.size))) (ht : ∀ r, letTemporaryGo value (.ref l) r = pure ()) (hz : its.length ≤ sizeLine) :
    wpAny (model prog w) A (subscriptTail value slice (.ref l) (.ref hp.objs.size)) Q E ⟨hp.push { cls := .type "slice", data := .fields #[.none, .none, vk] }, gs, dr, tk, os⟩ :=
  krv_lit (s := ⟨hp, gs, dr, tk, os⟩) F N hl pk (by simp) h hs ht (by simpa using hz)
end
section
variable {prog : Program} {w : World} {A : Around} {E : Value → Shared → Prop} {hp h₀ : Heap} {gs : Array GenState} {dr : Drawn} {tk : Nat} {os : OsState} {L l : Addr} {m : Str → Option Value} {news : List (Addr × Obj)} {value slice : PySem.Expr} {its : List Value} {vl vu vk : Value} {lo hi : Option Int} {Q : Value → Shared → Prop}
theorem slice_rev_tmp {ops : List Value} (F : Fr h₀ L hp m) (N : News h₀ L hp news) (hl : hp.IsList l its.toArray) (pk : IsPart vk (some (-1)))
    (h : ∀ D h', Fr h₀ L h' m → News h₀ L h' ((D, listOf its.reverse.toArray 0) :: news) → (∀ p ∈ news, p.1 < D) → Q (.ref D) ⟨h', gs, dr, tk, os⟩)
    (hs : subscripted slice false (.ref l) (.ref hp.objs.size) = operate ops (getItem (.ref l) (.ref hp.objs.size))) (hz : its.length ≤ sizeLine) :
    wpAny (model prog w) A (subscriptTail value slice (.ref l) (.ref hp.objs.size)) Q E ⟨hp.push { cls := .type "slice", data := .fields #[.none, .none, vk] }, gs, dr, tk, os⟩ := by
  refine tail_any (T := "list") (Heap.IsList.typeIs (s := ⟨hp.push { cls := .type "slice", data := .fields #[.none, .none, vk] }, gs, dr, tk, os⟩) (hl.push _)) list_getitem_lookup
    (wpAny_getItem_list_slice (s := ⟨hp.push { cls := .type "slice", data := .fields #[.none, .none, vk] }, gs, dr, tk, os⟩) (hl.push _) (Heap.IsSliceOf.new ..) .none .none pk (by decide) ?_ (by simpa using hz)) hs
  have N1 := News.push (F.push { cls := .type "slice", data := .fields #[.none, .none, vk] }) (N.grown fun _ _ e => Heap.get?_push_of_some _ e) { cls := .type "list", data := .seq (slicePick its.toArray none none (some (-1))) }
  rw [Heap.size_push] at N1
  show Q (.ref (hp.push _).objs.size) _
  rw [Heap.size_push]
  refine h _ _ ((F.push _).push _) ?_ (fun p hp => Nat.lt_succ_of_lt (Heap.lt_size (N p hp).1))
  rw [krv_pick] at N1
  have e : its.toArray.toList.reverse.toArray = its.reverse.toArray := by simp
  rw [krv_pick, e]
  rw [e] at N1
  exact N1
end
theorem pick_init {items : List Value} {v : Value} : kms_pick (items ++ [v]) none (some (-1)) = items := by
  have e : (items.length + 1 - (1 : Int).toNat - 0) = items.length := by simp
  simp [kms_pick, kms_lo, kms_hi]
theorem pick_from {items : List Value} {k : Nat} : kms_pick items (some (k : Nat)) none = items.drop k := by
  have h : ¬ ((k : Int) < 0) := by omega
  simp only [kms_pick, kms_lo, kms_hi, if_neg h, Int.toNat_natCast]
  by_cases hk : k ≤ items.length
  · rw [Nat.min_eq_left hk, List.take_of_length_le (by simp)]
  · rw [Nat.min_eq_right (by omega), List.drop_eq_nil_of_le (Nat.le_refl _), List.drop_eq_nil_of_le (by omega)]; simp
theorem pick_upto {items : List Value} {k : Nat} : kms_pick items none (some (k : Nat)) = items.take k := by
  have h : ¬ ((k : Int) < 0) := by omega
  simp only [kms_pick, kms_lo, kms_hi, if_neg h, Int.toNat_natCast]
  by_cases hk : k ≤ items.length
  · rw [Nat.min_eq_left hk]; simp
  · rw [Nat.min_eq_right (by omega), List.take_of_length_le (by simp), List.take_of_length_le (by omega)]; simp
end Mine
end TLoo
section TPur
set_option autoImplicit false
namespace Mine
def startL (ds : List Int) : Nat → List (Int × Int)
  | 0 => []
  | i + 1 => ins (ds.getD i 0, (i : Int)) (startL ds i)
def takeL (one : Int) : List (Int × Int) → List (Int × Int) → List (Int × Int) → Option (List (Int × Int) × List (Int × Int))
  | [], left, ties => some (left, ties)
  | (other, two) :: r, left, ties => if other = 0 then none else takeL one r (ins (other - 1, two) left) (ties ++ [(one, two)])
def runL : Nat → List (Int × Int) → List (Int × Int) → Option (List (Int × Int))
  | 0, _, ties => some ties
  | n + 1, left, ties =>
    match left.getLast? with
    | none => some ties
    | some (degree, one) =>
      if degree > (left.dropLast.length : Int) then none else
      match takeL one (left.dropLast.drop (left.dropLast.length - degree.toNat)) (left.dropLast.take (left.dropLast.length - degree.toNat)) ties with
      | none => none
      | some (l, t) => runL n l t
theorem runL_snoc (left ties : List (Int × Int)) (d o : Int) : runL (left ++ [(d, o)]).length (left ++ [(d, o)]) ties = if d > (left.length : Int) then none else
    match takeL o (left.drop (left.length - d.toNat)) (left.take (left.length - d.toNat)) ties with
      | none => none
      | some (l, t) => runL left.length l t := by
  rw [List.length_append, List.length_singleton, runL]
  simp
def tied (ds : List Int) : Option (List (Int × Int)) := runL ds.length (startL ds ds.length) []

theorem startL_length (ds : List Int) : ∀ n, (startL ds n).length = n
  | 0 => rfl
  | n + 1 => by rw [startL, ins_length, startL_length ds n]
theorem startL_srt (ds : List Int) : ∀ n, Srt (startL ds n)
  | 0 => List.Pairwise.nil
  | n + 1 => ins_srt (startL_srt ds n)
theorem startL_nn {ds : List Int} (h : ∀ d ∈ ds, 0 ≤ d) : ∀ n, ∀ p ∈ startL ds n, 0 ≤ p.1
  | 0, p, hp => by simp [startL] at hp
  | n + 1, p, hp => by
    rcases ins_mem.mp hp with rfl | hp
    · rw [List.getD_eq_getElem?_getD]
      cases e : ds[n]? with
      | none => simp
      | some d => exact h d (List.mem_of_getElem? e)
    · exact startL_nn h n p hp

/-- the ledger bears at v the pair p -/
abbrev tupO (items : Array Value) (n : Nat) : PySem.Obj := { cls := .type "tuple", data := .seq items n }
def PrIn (tups : List (Addr × Obj)) (v : Value) (p : Int × Int) : Prop := ∃ a t u n, v = .ref a ∧ (a, tupO #[.int p.1 t, .int p.2 u] n) ∈ tups
theorem PrIn.mono {tups tups' : List (Addr × Obj)} (hs : ∀ q ∈ tups, q ∈ tups') {v : Value} {p : Int × Int} (h : PrIn tups v p) : PrIn tups' v p := by
  obtain ⟨a, t, u, n, rfl, hm⟩ := h
  exact ⟨a, t, u, n, rfl, hs _ hm⟩
theorem PrIn.isPr {h₀ h : Heap} {L : Addr} {news tups : List (Addr × Obj)} (N : News h₀ L h news) (hs : ∀ q ∈ tups, q ∈ news) {v : Value} {p : Int × Int} (hp : PrIn tups v p) : IsPr h v p := by
  obtain ⟨a, t, u, n, rfl, hm⟩ := hp
  exact ⟨a, t, u, rfl, _, (N _ (hs _ hm)).1, rfl, n, rfl⟩

theorem fr_but {h₀ h h' : Heap} {L a : Addr} {m : Str → Option Value} (F : Fr h₀ L h m) (hk : ∀ b o, b ≠ a → h.get? b = some o → h'.get? b = some o) (ha : a ≠ L) (hn : h₀.get? a = none) : Fr h₀ L h' m :=
  ⟨F.ns.at' fun o e => hk _ o (Ne.symm ha) e, fun b o e => hk b o (fun q => by rw [q, hn] at e; cases e) (F.keep b o e), F.above⟩
theorem news_but {h₀ h h' : Heap} {L a : Addr} {news : List (Addr × Obj)} (N : News h₀ L h news) (hk : ∀ b o, b ≠ a → h.get? b = some o → h'.get? b = some o) (hne : ∀ p ∈ news, p.1 ≠ a) : News h₀ L h' news :=
  fun p hp => ⟨hk _ _ (hne p hp) (N p hp).1, (N p hp).2⟩
theorem news_cons {h₀ h : Heap} {L a : Addr} {o : Obj} {news : List (Addr × Obj)} (ho : h.get? a = some o) (ha : a ≠ L) (hn : h₀.get? a = none) (N : News h₀ L h news) : News h₀ L h ((a, o) :: news) := by
  intro p hp
  rcases List.mem_cons.mp hp with rfl | hp
  · exact ⟨ho, ha, hn⟩
  · exact N p hp
theorem news_app {h₀ h : Heap} {L : Addr} {a b : List (Addr × Obj)} (x : News h₀ L h a) (y : News h₀ L h b) : News h₀ L h (a ++ b) := fun p hp =>
  (List.mem_append.mp hp).elim (x p) (y p)
/-- two entries of unlike classes lie apart -/
theorem news_ne {h₀ h : Heap} {L a b : Addr} {o o' : Obj} {news : List (Addr × Obj)} (N : News h₀ L h news) (ha : (a, o) ∈ news) (hb : (b, o') ∈ news) (hc : o.cls ≠ o'.cls) : a ≠ b := fun e => by
  have h1 := (N _ ha).1
  have h2 := (N _ hb).1
  subst e
  rw [h1] at h2
  exact hc (by have e : o = o' := Option.some.inj h2; rw [e])
theorem news_list {h₀ h : Heap} {L a : Addr} {items : Array Value} {n : Nat} {news : List (Addr × Obj)} (N : News h₀ L h news) (hm : (a, listOf items n) ∈ news) : h.IsList a items := ⟨_, (N _ hm).1, rfl, n, rfl⟩
def Tups (tups : List (Addr × Obj)) : Prop := ∀ q ∈ tups, q.2.cls = .type "tuple"
theorem ne_tup : (Value.type "tuple") ≠ (Value.type "list") := by intro h; injection h with h; exact absurd h (by decide)

theorem allLt_mem {d : Addr} {l : List (Addr × Obj)} (h : AllLt d l) : ∀ p ∈ l, p.1 < d := by
  induction l with
  | nil => intro p hp; exact absurd hp (by simp)
  | cons q r ih =>
    have h' : @LT.lt Nat _ q.1 d ∧ AllLt d r := by unfold AllLt at h; exact h
    intro p hp
    rcases List.mem_cons.mp hp with rfl | hp
    · exact h'.1
    · exact ih h'.2 p hp
theorem drop_of_get {α : Type} {l : List α} {i : Nat} {x : α} (h : l[i]? = some x) : l.drop i = x :: l.drop (i + 1) := by
  obtain ⟨hi, e⟩ := List.getElem?_eq_some_iff.mp h
  rw [List.drop_eq_getElem_cons hi, e]
end Mine
end TPur
section TTie
set_option autoImplicit false
namespace Mine

local macro_rules | `(tactic| k_mem) => `(tactic| (refine List.mem_append.mpr (.inr ?_); k_mem))

/-- what _law_tied hands back -/
def TiedRes (h h' : Heap) : Option (List (Int × Int)) → Value → Prop
  | none, v => v = .none
  | some ties, v => ∃ a items n tups, v = .ref a ∧ h'.get? a = some (listOf items.toArray n) ∧ h.get? a = none ∧ (∀ q ∈ tups, h'.get? q.1 = some q.2 ∧ h.get? q.1 = none) ∧ Tups tups ∧ All2 (PrIn tups) items ties

theorem tied_spec {prog : Program} {w : World} {dp un : Nat} {fr : Option (List Env)} {gd : Option (List Code)} {E : Value → Shared → Prop} {s : Shared} {Q : Value → Shared → Prop} {mean : ExcName → Option Value} {mg mb : Str → Option Value}
  (X0 : (hd.heap_39 w.params).In s.heap) (T0 : Top hd.view_39 LS mean mg mb s.heap) {dl : Addr} {vs : List Value} {ds : List Int}
  (hl : s.heap.IsList dl vs.toArray) (hi : IntsAre vs ds) (hnn : ∀ d ∈ ds, 0 ≤ d) (hsz : ds.length ≤ 7) (hdp : dp + 20 < recursionLimit) (hun : un + 150 < cLine)
  (h : ∀ v h' tk', s.heap.StaysIn h' → TiedRes s.heap h' (tied ds) v → Q v {s with heap := h', toks := tk'}) :
  wpAny (model prog w) (AA dp un fr gd) (call (.ref 53) [.ref dl]) Q E s := by
  refine' call_raw (K := hd.heap_39 w.params) (binds := [("degrees", .ref dl)]) X0 T0.nolimit ?k6 ?k7 ?k8 ?k9 ?kB ?c2 ?c3 ?c4 ?c5 ?_
  (case k6 => k_is)
  (case k7 => k_is)
  (case k8 => first | (simp only [depth_deeper]; omega) | omega)
  (case k9 => first | exact BindsTo.of_eq rfl | exact binds_K X0 rfl (by k_is) rfl rfl rfl | exact binds_KW X0 rfl (by k_is) rfl rfl rfl (by k_is) rfl)
  (case kB => exact locs rfl)
  (case c2 => exact rfl)
  (case c3 => exact rfl)
  (case c4 => exact rfl)
  (case c5 => decide)
  intro h₁ F1
  (try dsimp only)
  k_fold
  have N1 : News s.heap s.heap.objs.size h₁ [] := News.nil
  repeat' (first | (k_unfold; (try dsimp only)) | ((fail_if_success (with_reducible show wpAny _ _ (call (Value.builtin "list.append") _ _) _ _ _)); (fail_if_success (with_reducible show wpAny _ _ (subscriptTail _ (Expr.Slice _ _ _ _) (Value.ref _) (Value.ref _)) _ _ _)); (fail_if_success (with_reducible show wpAny _ _ (compareOp CmpOp.NotEq (Value.ref _) (Value.ref _)) _ _ _)); (fail_if_success (with_reducible show wpAny _ _ (compareOp CmpOp.Eq (Value.ref _) (Value.ref _)) _ _ _)); (fail_if_success (with_reducible show wpAny _ _ (compareOp CmpOp.Lt (Value.ref _) (Value.ref _)) _ _ _)); (fail_if_success (with_reducible show wpAny _ _ (call (Value.type "enumerate") _ _) _ _ _)); (fail_if_success (with_reducible show wpAny _ _ (exec (Stmt.While _ _ _ _) _) _ _ _)); (fail_if_success (with_reducible show wpAny _ _ (exec (Stmt.For _ _ _ _ _) _) _ _ _)); (fail_if_success (with_reducible show wpAny _ _ (call (Value.ref _) _ _) _ _ _)); (fail_if_success (with_reducible show wpAny _ _ (eval (Expr.ListComp _ _ _ _) _) _ _ _)); walk1; (try dsimp only)))
  rename Fr _ _ _ _ => F2
  rename News _ _ _ _ => N2
  rename_i al _ _ tl _ hat _ _ _ _ _ _
  replace N2 : News s.heap s.heap.objs.size _ [(al, listOf [].toArray 0), (tl, listOf #[] 0)] := N2.perm (by intro p hp; simp at hp ⊢; rcases hp with rfl | rfl <;> simp)
  refine For_turns F2 ?_
  repeat' (first | (k_unfold; (try dsimp only)) | ((fail_if_success (with_reducible show wpAny _ _ (call (Value.builtin "list.append") _ _) _ _ _)); (fail_if_success (with_reducible show wpAny _ _ (subscriptTail _ (Expr.Slice _ _ _ _) (Value.ref _) (Value.ref _)) _ _ _)); (fail_if_success (with_reducible show wpAny _ _ (compareOp CmpOp.NotEq (Value.ref _) (Value.ref _)) _ _ _)); (fail_if_success (with_reducible show wpAny _ _ (compareOp CmpOp.Eq (Value.ref _) (Value.ref _)) _ _ _)); (fail_if_success (with_reducible show wpAny _ _ (compareOp CmpOp.Lt (Value.ref _) (Value.ref _)) _ _ _)); (fail_if_success (with_reducible show wpAny _ _ (call (Value.type "enumerate") _ _) _ _ _)); (fail_if_success (with_reducible show wpAny _ _ (exec (Stmt.While _ _ _ _) _) _ _ _)); (fail_if_success (with_reducible show wpAny _ _ (exec (Stmt.For _ _ _ _ _) _) _ _ _)); (fail_if_success (with_reducible show wpAny _ _ (call (Value.ref _) _ _) _ _ _)); (fail_if_success (with_reducible show wpAny _ _ (eval (Expr.ListComp _ _ _ _) _) _ _ _)); walk1; (try dsimp only)))
  refine for_enum rfl rfl rfl rfl (l := dl) (vs := vs) hl F2 N2 (fun i m nx => ∃ items n tups u1 u2, nx = (al, listOf items.toArray n) :: (tl, listOf #[] 0) :: tups ∧ Tups tups ∧ All2 (PrIn tups) items (startL ds i) ∧
    m = fun y => if y = (Str.ofString "degree") then u1 else if y = (Str.ofString "one") then u2 else if y = (Str.ofString "left") then some (.ref al) else if y = (Str.ofString "ties") then some (.ref tl) else List.lookup y [((Str.ofString "degrees"), .ref dl)].reverse)
    ?_ [al] ?_ ?_ ?_
  · refine ⟨[], 0, [], none, none, rfl, (fun _ hq => nomatch hq), .nil, ?_⟩
    (funext y; first | rfl | ((try dsimp only); by_cases hh0 : y = (Str.ofString "degree"); (· subst hh0; rfl); by_cases hh1 : y = (Str.ofString "one"); (· subst hh1; rfl); by_cases hh2 : y = (Str.ofString "left"); (· subst hh2; rfl); by_cases hh3 : y = (Str.ofString "ties"); (· subst hh3; rfl); simp only [hh0, hh1, hh2, hh3, if_false]))
  · intro a ha; rw [List.mem_singleton.mp ha]; exact ⟨_, .head _⟩
  · rintro i v t m₁ nx h3 tk3 own wr hv ⟨items, n, tups, u1, u2, rfl, htu, hall, rfl⟩ hnw hown hoff F3 N3
    obtain ⟨d, td, rfl, hd⟩ := hi.at i v hv
    dsimp only [envOf] at F3 N3
    k_fold
    repeat' (first | (k_unfold; (try dsimp only)) | ((fail_if_success (with_reducible show wpAny _ _ (call (Value.builtin "list.append") _ _) _ _ _)); (fail_if_success (with_reducible show wpAny _ _ (subscriptTail _ (Expr.Slice _ _ _ _) (Value.ref _) (Value.ref _)) _ _ _)); (fail_if_success (with_reducible show wpAny _ _ (compareOp CmpOp.NotEq (Value.ref _) (Value.ref _)) _ _ _)); (fail_if_success (with_reducible show wpAny _ _ (compareOp CmpOp.Eq (Value.ref _) (Value.ref _)) _ _ _)); (fail_if_success (with_reducible show wpAny _ _ (compareOp CmpOp.Lt (Value.ref _) (Value.ref _)) _ _ _)); (fail_if_success (with_reducible show wpAny _ _ (call (Value.type "enumerate") _ _) _ _ _)); (fail_if_success (with_reducible show wpAny _ _ (exec (Stmt.While _ _ _ _) _) _ _ _)); (fail_if_success (with_reducible show wpAny _ _ (exec (Stmt.For _ _ _ _ _) _) _ _ _)); (fail_if_success (with_reducible show wpAny _ _ (call (Value.ref _) _ _) _ _ _)); (fail_if_success (with_reducible show wpAny _ _ (eval (Expr.ListComp _ _ _ _) _) _ _ _)); walk1; (try dsimp only)))
    rename Fr _ _ _ _ => F4
    rename News _ _ _ _ => N4
    rename_i D _ hD
    have hmal : (al, listOf items.toArray n) ∈ ((D, tupO #[.int d td, .int (i : Nat) t] 0) :: (own ++ (al, listOf items.toArray n) :: (tl, listOf #[] 0) :: tups)) := by simp
    have hsub : ∀ q ∈ tups, q ∈ ((D, tupO #[.int d td, .int (i : Nat) t] 0) :: (own ++ (al, listOf items.toArray n) :: (tl, listOf #[] 0) :: tups)) := fun q hq => by simp [hq]
    refine insort_spec (dp := dp + 1) (un := un + 3) X0 T0 F4.keep (Nat.le_trans F4.above (Nat.le_of_lt F4.ns.lt)) (n := n) (items := items) (ps := startL ds i) (p := (d, (i : Int))) (N4 _ hmal).2.2 (N4 _ hmal).1
      (hall.mono fun v p q => q.isPr N4 hsub) ⟨D, td, t, rfl, _, (N4 _ (.head _)).1, rfl, 0, rfl⟩ (startL_srt ds i) (by rw [startL_length]; have := (List.getElem?_eq_some_iff.mp hd).1; omega) (by omega) (by omega) ?_
    intro k h5 tk5 hk hup hal5
    have F5 := fr_but F4 hup (N4 _ hmal).2.1 (N4 _ hmal).2.2
    have hDne : D ≠ al := Nat.ne_of_gt (hD (al, listOf items.toArray n) (by simp))
    have htne : tl ≠ al := Nat.ne_of_gt hat
    have hune : ∀ q ∈ tups, q.1 ≠ al := fun q hq => news_ne N4 (hsub q hq) hmal (by rw [htu q hq]; exact ne_tup)
    have N5 : News s.heap s.heap.objs.size h5 (own ++ (al, listOf (items.take k ++ .ref D :: items.drop k).toArray (n + 1)) :: (tl, listOf #[] 0) :: (D, tupO #[.int d td, .int (i : Nat) t] 0) :: tups) := by
      refine news_app (news_but (fun p hp => N4 p (by simp [hp])) hup fun p hp => hoff p hp al (.head _)) (news_cons hal5 (N4 _ hmal).2.1 (N4 _ hmal).2.2 (news_but (fun p hp => N4 p ?_) hup fun p hp => ?_))
      · simp at hp ⊢; rcases hp with rfl | rfl | hp <;> simp [*]
      · simp at hp; rcases hp with rfl | rfl | hp
        · exact htne
        · exact hDne
        · exact hune p hp
    repeat' (first | (k_unfold; (try dsimp only)) | ((fail_if_success (with_reducible show wpAny _ _ (call (Value.builtin "list.append") _ _) _ _ _)); (fail_if_success (with_reducible show wpAny _ _ (subscriptTail _ (Expr.Slice _ _ _ _) (Value.ref _) (Value.ref _)) _ _ _)); (fail_if_success (with_reducible show wpAny _ _ (compareOp CmpOp.NotEq (Value.ref _) (Value.ref _)) _ _ _)); (fail_if_success (with_reducible show wpAny _ _ (compareOp CmpOp.Eq (Value.ref _) (Value.ref _)) _ _ _)); (fail_if_success (with_reducible show wpAny _ _ (compareOp CmpOp.Lt (Value.ref _) (Value.ref _)) _ _ _)); (fail_if_success (with_reducible show wpAny _ _ (call (Value.type "enumerate") _ _) _ _ _)); (fail_if_success (with_reducible show wpAny _ _ (exec (Stmt.While _ _ _ _) _) _ _ _)); (fail_if_success (with_reducible show wpAny _ _ (exec (Stmt.For _ _ _ _ _) _) _ _ _)); (fail_if_success (with_reducible show wpAny _ _ (call (Value.ref _) _ _) _ _ _)); (fail_if_success (with_reducible show wpAny _ _ (eval (Expr.ListComp _ _ _ _) _) _ _ _)); walk1; (try dsimp only)))
    refine' TurnQ.intro F5 N5 ?_ ⟨_, n + 1, (D, tupO #[.int d td, .int (i : Nat) t] 0) :: tups, _, _, rfl, ?_, ?_, ?meq⟩
    case meq =>
      (funext y; first | rfl | ((try dsimp only); by_cases hh0 : y = (Str.ofString "degree"); (· subst hh0; rfl); by_cases hh1 : y = (Str.ofString "one"); (· subst hh1; rfl); by_cases hh2 : y = (Str.ofString "left"); (· subst hh2; rfl); by_cases hh3 : y = (Str.ofString "ties"); (· subst hh3; rfl); simp only [hh0, hh1, hh2, hh3, if_false]))
    · intro q hq
      simp at hq
      rcases hq with rfl | rfl | rfl | hq
      · exact hnw (al, listOf items.toArray n) (by simp)
      · exact hnw (tl, listOf #[] 0) (by simp)
      · intro hw
        obtain ⟨o, ho⟩ := hown _ hw
        exact absurd (hD _ (List.mem_append_left _ ho)) (Nat.lt_irrefl _)
      · exact hnw _ (by simp [hq])
    · intro q hq
      rcases List.mem_cons.mp hq with rfl | hq
      · rfl
      · exact htu q hq
    · have e : startL ds (i + 1) = ins (d, (i : Int)) (startL ds i) := by
        rw [startL, List.getD_eq_getElem?_getD, hd]; rfl
      rw [e]
      exact ins_all2 (hall.mono fun _ _ q => q.mono fun _ => List.mem_cons_of_mem _) ⟨D, td, t, 0, rfl, .head _⟩ hk
  · rintro h3 tk3 m3 nx3 F3 N3 ⟨items, n, tups, u1, u2, rfl, htu, hall, rfl⟩
    rw [hi.length] at hall
    dsimp only [envOf] at F3 N3
    repeat' (first | (k_unfold; (try dsimp only)) | ((fail_if_success (with_reducible show wpAny _ _ (call (Value.builtin "list.append") _ _) _ _ _)); (fail_if_success (with_reducible show wpAny _ _ (subscriptTail _ (Expr.Slice _ _ _ _) (Value.ref _) (Value.ref _)) _ _ _)); (fail_if_success (with_reducible show wpAny _ _ (compareOp CmpOp.NotEq (Value.ref _) (Value.ref _)) _ _ _)); (fail_if_success (with_reducible show wpAny _ _ (compareOp CmpOp.Eq (Value.ref _) (Value.ref _)) _ _ _)); (fail_if_success (with_reducible show wpAny _ _ (compareOp CmpOp.Lt (Value.ref _) (Value.ref _)) _ _ _)); (fail_if_success (with_reducible show wpAny _ _ (call (Value.type "enumerate") _ _) _ _ _)); (fail_if_success (with_reducible show wpAny _ _ (exec (Stmt.While _ _ _ _) _) _ _ _)); (fail_if_success (with_reducible show wpAny _ _ (exec (Stmt.For _ _ _ _ _) _) _ _ _)); (fail_if_success (with_reducible show wpAny _ _ (call (Value.ref _) _ _) _ _ _)); (fail_if_success (with_reducible show wpAny _ _ (eval (Expr.ListComp _ _ _ _) _) _ _ _)); walk1; (try dsimp only)))
    refine While_inv2 (fun n m nx => ∃ (left ties : List (Int × Int)) (al tl : Addr) (items titems : List Value) (nl nt : Nat) (tups : List (Addr × Obj)) (u1 u2 u3 u4 u5 : Option Value),
      nx = (al, listOf items.toArray nl) :: (tl, listOf titems.toArray nt) :: tups ∧ Tups tups ∧ al ≠ tl ∧ All2 (PrIn tups) items left ∧ All2 (PrIn tups) titems ties ∧ Srt left ∧ (∀ p ∈ left, 0 ≤ p.1) ∧ n = left.length ∧
      ties.length + 7 * left.length ≤ 49 ∧ left.length ≤ 7 ∧ tied ds = runL left.length left ties ∧
      m = fun y => if y = (Str.ofString "two") then u1 else if y = (Str.ofString "other") then u2 else if y = (Str.ofString "taken") then u3 else if y = (Str.ofString "degree") then u4 else if y = (Str.ofString "one") then u5 else if y = (Str.ofString "left") then some (.ref al) else if y = (Str.ofString "ties") then some (.ref tl) else List.lookup y [((Str.ofString "degrees"), .ref dl)].reverse)
      (n₀ := ds.length) F3 N3 ?_ ?_
    · refine ⟨startL ds ds.length, [], al, tl, items, [], n, 0, tups, none, none, none, u1, u2, rfl, htu, Nat.ne_of_lt hat, hall, .nil, startL_srt _ _, startL_nn hnn _, (startL_length _ _).symm, by rw [startL_length]; simp; omega, by rw [startL_length]; omega, by rw [startL_length]; rfl, ?_⟩
      (funext y; first | rfl | ((try dsimp only); by_cases hh0 : y = (Str.ofString "two"); (· subst hh0; rfl); by_cases hh1 : y = (Str.ofString "other"); (· subst hh1; rfl); by_cases hh2 : y = (Str.ofString "taken"); (· subst hh2; rfl); by_cases hh3 : y = (Str.ofString "degree"); (· subst hh3; rfl); by_cases hh4 : y = (Str.ofString "one"); (· subst hh4; rfl); by_cases hh5 : y = (Str.ofString "left"); (· subst hh5; rfl); by_cases hh6 : y = (Str.ofString "ties"); (· subst hh6; rfl); simp only [hh0, hh1, hh2, hh3, hh4, hh5, hh6, if_false]))
    · rintro n m nx h4 tk4 F4 N4 ⟨left, ties, al, tl, items, titems, nl, nt, tups, u1, u2, u3, u4, u5, rfl, htu, hat, hleft, hties, hsrt, hnn', rfl, hb1, hb2, heq, rfl⟩
      k_fold
      repeat' (first | (k_unfold; (try dsimp only)) | ((fail_if_success (with_reducible show wpAny _ _ (call (Value.builtin "list.append") _ _) _ _ _)); (fail_if_success (with_reducible show wpAny _ _ (subscriptTail _ (Expr.Slice _ _ _ _) (Value.ref _) (Value.ref _)) _ _ _)); (fail_if_success (with_reducible show wpAny _ _ (compareOp CmpOp.NotEq (Value.ref _) (Value.ref _)) _ _ _)); (fail_if_success (with_reducible show wpAny _ _ (compareOp CmpOp.Eq (Value.ref _) (Value.ref _)) _ _ _)); (fail_if_success (with_reducible show wpAny _ _ (compareOp CmpOp.Lt (Value.ref _) (Value.ref _)) _ _ _)); (fail_if_success (with_reducible show wpAny _ _ (call (Value.type "enumerate") _ _) _ _ _)); (fail_if_success (with_reducible show wpAny _ _ (exec (Stmt.While _ _ _ _) _) _ _ _)); (fail_if_success (with_reducible show wpAny _ _ (exec (Stmt.For _ _ _ _ _) _) _ _ _)); (fail_if_success (with_reducible show wpAny _ _ (call (Value.ref _) _ _) _ _ _)); (fail_if_success (with_reducible show wpAny _ _ (eval (Expr.ListComp _ _ _ _) _) _ _ _)); walk1; (try dsimp only)))
      rename Fr _ _ _ _ => F5
      rename News _ _ _ _ => N5
      rename_i el _ hel
      refine ne_nil (items := items) (news_list N5 (.tail _ (.head _))) (news_list N5 (.head _)) (by show un + 3 < cLine; omega) ?_
      repeat' (first | (k_unfold; (try dsimp only)) | ((fail_if_success (with_reducible show wpAny _ _ (call (Value.builtin "list.append") _ _) _ _ _)); (fail_if_success (with_reducible show wpAny _ _ (subscriptTail _ (Expr.Slice _ _ _ _) (Value.ref _) (Value.ref _)) _ _ _)); (fail_if_success (with_reducible show wpAny _ _ (compareOp CmpOp.NotEq (Value.ref _) (Value.ref _)) _ _ _)); (fail_if_success (with_reducible show wpAny _ _ (compareOp CmpOp.Eq (Value.ref _) (Value.ref _)) _ _ _)); (fail_if_success (with_reducible show wpAny _ _ (compareOp CmpOp.Lt (Value.ref _) (Value.ref _)) _ _ _)); (fail_if_success (with_reducible show wpAny _ _ (call (Value.type "enumerate") _ _) _ _ _)); (fail_if_success (with_reducible show wpAny _ _ (exec (Stmt.While _ _ _ _) _) _ _ _)); (fail_if_success (with_reducible show wpAny _ _ (exec (Stmt.For _ _ _ _ _) _) _ _ _)); (fail_if_success (with_reducible show wpAny _ _ (call (Value.ref _) _ _) _ _ _)); (fail_if_success (with_reducible show wpAny _ _ (eval (Expr.ListComp _ _ _ _) _) _ _ _)); walk1; (try dsimp only)))
      · have hem : items = [] := by simpa using ‹items.isEmpty = true›
        subst hem
        have hle : left = [] := by cases hleft; rfl
        subst hle
        have e : tied ds = some ties := heq
        refine h _ _ _ F5.keep ?_
        rw [e]
        exact ⟨tl, titems, nt, tups, rfl, (N5 (tl, _) (.tail _ (.tail _ (.head _)))).1, (N5 (tl, _) (.tail _ (.tail _ (.head _)))).2.2, fun q hq => ⟨(N5 q (.tail _ (.tail _ (.tail _ hq)))).1, (N5 q (.tail _ (.tail _ (.tail _ hq)))).2.2⟩, htu, hties⟩
      · have hne : left ≠ [] := by
          rintro rfl
          cases hleft
          simp at *
        obtain ⟨left, ⟨d, o⟩, rfl⟩ : ∃ l p, left = l ++ [p] := ⟨left.dropLast, left.getLast hne, (List.dropLast_concat_getLast hne).symm⟩
        obtain ⟨items, v, rfl, hlf, a, t, u, na, rfl, hma⟩ := hleft.snoc_inv
        have hil := hlf.length
        simp only [List.length_append, List.length_singleton] at hb1 hb2
        refine item_last (items := items) (v := .ref a) (news_list N5 (.tail _ (.head _))) (by omega) ?_ (by with_unfolding_all rfl) (by intro _; with_unfolding_all rfl)
        refine assign_pair rfl rfl rfl rfl F5 N5 (v0 := .int d t) (v1 := .int o u) ⟨_, (N5 (a, _) (.tail _ (.tail _ (.tail _ hma)))).1, rfl, na, rfl⟩ ?_
        intro h6 tk6 F6 N6
        dsimp only [envOf] at F6 N6
        repeat' (first | (k_unfold; (try dsimp only)) | ((fail_if_success (with_reducible show wpAny _ _ (call (Value.builtin "list.append") _ _) _ _ _)); (fail_if_success (with_reducible show wpAny _ _ (subscriptTail _ (Expr.Slice _ _ _ _) (Value.ref _) (Value.ref _)) _ _ _)); (fail_if_success (with_reducible show wpAny _ _ (compareOp CmpOp.NotEq (Value.ref _) (Value.ref _)) _ _ _)); (fail_if_success (with_reducible show wpAny _ _ (compareOp CmpOp.Eq (Value.ref _) (Value.ref _)) _ _ _)); (fail_if_success (with_reducible show wpAny _ _ (compareOp CmpOp.Lt (Value.ref _) (Value.ref _)) _ _ _)); (fail_if_success (with_reducible show wpAny _ _ (call (Value.type "enumerate") _ _) _ _ _)); (fail_if_success (with_reducible show wpAny _ _ (exec (Stmt.While _ _ _ _) _) _ _ _)); (fail_if_success (with_reducible show wpAny _ _ (exec (Stmt.For _ _ _ _ _) _) _ _ _)); (fail_if_success (with_reducible show wpAny _ _ (call (Value.ref _) _ _) _ _ _)); (fail_if_success (with_reducible show wpAny _ _ (eval (Expr.ListComp _ _ _ _) _) _ _ _)); walk1; (try dsimp only)))
        refine slice_lit F6 N6 (news_list N6 (.tail _ (.head _))) (by kmk_part) (by kmk_part) ?_ (by with_unfolding_all rfl) (by kmk_pure) (by simp [sizeLine_eq]; omega)
        intro D7 h7 F7 N7 hD7
        repeat' (first | (k_unfold; (try dsimp only)) | ((fail_if_success (with_reducible show wpAny _ _ (call (Value.builtin "list.append") _ _) _ _ _)); (fail_if_success (with_reducible show wpAny _ _ (subscriptTail _ (Expr.Slice _ _ _ _) (Value.ref _) (Value.ref _)) _ _ _)); (fail_if_success (with_reducible show wpAny _ _ (compareOp CmpOp.NotEq (Value.ref _) (Value.ref _)) _ _ _)); (fail_if_success (with_reducible show wpAny _ _ (compareOp CmpOp.Eq (Value.ref _) (Value.ref _)) _ _ _)); (fail_if_success (with_reducible show wpAny _ _ (compareOp CmpOp.Lt (Value.ref _) (Value.ref _)) _ _ _)); (fail_if_success (with_reducible show wpAny _ _ (call (Value.type "enumerate") _ _) _ _ _)); (fail_if_success (with_reducible show wpAny _ _ (exec (Stmt.While _ _ _ _) _) _ _ _)); (fail_if_success (with_reducible show wpAny _ _ (exec (Stmt.For _ _ _ _ _) _) _ _ _)); (fail_if_success (with_reducible show wpAny _ _ (call (Value.ref _) _ _) _ _ _)); (fail_if_success (with_reducible show wpAny _ _ (eval (Expr.ListComp _ _ _ _) _) _ _ _)); walk1; (try dsimp only)))
        rename Fr _ _ _ _ => F8
        rename News _ _ _ _ => N8
        rw [pick_init] at N8
        have hDt : D7 ≠ tl := Nat.ne_of_gt (hD7 (tl, listOf titems.toArray nt) (by simp))
        replace N8 : News s.heap s.heap.objs.size _ ((D7, listOf items.toArray 0) :: (tl, listOf titems.toArray nt) :: tups) := N8.perm (by intro p hp; simp at hp ⊢; rcases hp with rfl | rfl | hp <;> simp [*])
        clear hD7 hat hel
        refine len_list (news_list N8 (.head _)) (by simp; omega) ?_
        repeat' (first | (k_unfold; (try dsimp only)) | ((fail_if_success (with_reducible show wpAny _ _ (call (Value.builtin "list.append") _ _) _ _ _)); (fail_if_success (with_reducible show wpAny _ _ (subscriptTail _ (Expr.Slice _ _ _ _) (Value.ref _) (Value.ref _)) _ _ _)); (fail_if_success (with_reducible show wpAny _ _ (compareOp CmpOp.NotEq (Value.ref _) (Value.ref _)) _ _ _)); (fail_if_success (with_reducible show wpAny _ _ (compareOp CmpOp.Eq (Value.ref _) (Value.ref _)) _ _ _)); (fail_if_success (with_reducible show wpAny _ _ (compareOp CmpOp.Lt (Value.ref _) (Value.ref _)) _ _ _)); (fail_if_success (with_reducible show wpAny _ _ (call (Value.type "enumerate") _ _) _ _ _)); (fail_if_success (with_reducible show wpAny _ _ (exec (Stmt.While _ _ _ _) _) _ _ _)); (fail_if_success (with_reducible show wpAny _ _ (exec (Stmt.For _ _ _ _ _) _) _ _ _)); (fail_if_success (with_reducible show wpAny _ _ (call (Value.ref _) _ _) _ _ _)); (fail_if_success (with_reducible show wpAny _ _ (eval (Expr.ListComp _ _ _ _) _) _ _ _)); walk1; (try dsimp only)))
        · have hgt : (left.length : Int) < d := by
            have q := ‹((items.toArray.size : Nat) : Int) < d›
            simpa [hil] using q
          refine h _ _ _ F8.keep ?_
          rw [heq, runL_snoc, if_pos hgt]
          rfl
        · have hle : ¬ (left.length : Int) < d := by
            have q := ‹¬ ((items.toArray.size : Nat) : Int) < d›
            simpa [hil] using q
          have hd0 : 0 ≤ d := hnn' (d, o) (by simp)
          refine len_list (news_list N8 (.head _)) (by simp; omega) ?_
          repeat' (first | (k_unfold; (try dsimp only)) | ((fail_if_success (with_reducible show wpAny _ _ (call (Value.builtin "list.append") _ _) _ _ _)); (fail_if_success (with_reducible show wpAny _ _ (subscriptTail _ (Expr.Slice _ _ _ _) (Value.ref _) (Value.ref _)) _ _ _)); (fail_if_success (with_reducible show wpAny _ _ (compareOp CmpOp.NotEq (Value.ref _) (Value.ref _)) _ _ _)); (fail_if_success (with_reducible show wpAny _ _ (compareOp CmpOp.Eq (Value.ref _) (Value.ref _)) _ _ _)); (fail_if_success (with_reducible show wpAny _ _ (compareOp CmpOp.Lt (Value.ref _) (Value.ref _)) _ _ _)); (fail_if_success (with_reducible show wpAny _ _ (call (Value.type "enumerate") _ _) _ _ _)); (fail_if_success (with_reducible show wpAny _ _ (exec (Stmt.While _ _ _ _) _) _ _ _)); (fail_if_success (with_reducible show wpAny _ _ (exec (Stmt.For _ _ _ _ _) _) _ _ _)); (fail_if_success (with_reducible show wpAny _ _ (call (Value.ref _) _ _) _ _ _)); (fail_if_success (with_reducible show wpAny _ _ (eval (Expr.ListComp _ _ _ _) _) _ _ _)); walk1; (try dsimp only)))
          have hsub : ((items.toArray.size : Nat) : Int) - d = ((left.length - d.toNat : Nat) : Int) := by simp [hil]; omega
          rw [hsub]
          refine slice_lit F8 N8 (news_list N8 (.head _)) (by kmk_part) (by kmk_part) ?_ (by with_unfolding_all rfl) (by kmk_pure) (by simp [sizeLine_eq]; omega)
          rw [pick_from]
          intro D9 h9 F9 N9 hD9
          repeat' (first | (k_unfold; (try dsimp only)) | ((fail_if_success (with_reducible show wpAny _ _ (call (Value.builtin "list.append") _ _) _ _ _)); (fail_if_success (with_reducible show wpAny _ _ (subscriptTail _ (Expr.Slice _ _ _ _) (Value.ref _) (Value.ref _)) _ _ _)); (fail_if_success (with_reducible show wpAny _ _ (compareOp CmpOp.NotEq (Value.ref _) (Value.ref _)) _ _ _)); (fail_if_success (with_reducible show wpAny _ _ (compareOp CmpOp.Eq (Value.ref _) (Value.ref _)) _ _ _)); (fail_if_success (with_reducible show wpAny _ _ (compareOp CmpOp.Lt (Value.ref _) (Value.ref _)) _ _ _)); (fail_if_success (with_reducible show wpAny _ _ (call (Value.type "enumerate") _ _) _ _ _)); (fail_if_success (with_reducible show wpAny _ _ (exec (Stmt.While _ _ _ _) _) _ _ _)); (fail_if_success (with_reducible show wpAny _ _ (exec (Stmt.For _ _ _ _ _) _) _ _ _)); (fail_if_success (with_reducible show wpAny _ _ (call (Value.ref _) _ _) _ _ _)); (fail_if_success (with_reducible show wpAny _ _ (eval (Expr.ListComp _ _ _ _) _) _ _ _)); walk1; (try dsimp only)))
          rename Fr _ _ _ _ => F10
          rename News _ _ _ _ => N10
          have hDD : D9 ≠ D7 := Nat.ne_of_gt (hD9 (D7, listOf items.toArray 0) (by simp))
          have hDt9 : D9 ≠ tl := Nat.ne_of_gt (hD9 (tl, listOf titems.toArray nt) (by simp))
          clear hD9
          refine slice_lit F10 N10 (news_list N10 (.tail _ (.head _))) (by kmk_part) (by kmk_part) ?_ (by with_unfolding_all rfl) (by kmk_pure) (by simp [sizeLine_eq]; omega)
          first | rw [hsub] | skip
          rw [pick_upto]
          intro D11 h11 F11 N11 hD11
          repeat' (first | (k_unfold; (try dsimp only)) | ((fail_if_success (with_reducible show wpAny _ _ (call (Value.builtin "list.append") _ _) _ _ _)); (fail_if_success (with_reducible show wpAny _ _ (subscriptTail _ (Expr.Slice _ _ _ _) (Value.ref _) (Value.ref _)) _ _ _)); (fail_if_success (with_reducible show wpAny _ _ (compareOp CmpOp.NotEq (Value.ref _) (Value.ref _)) _ _ _)); (fail_if_success (with_reducible show wpAny _ _ (compareOp CmpOp.Eq (Value.ref _) (Value.ref _)) _ _ _)); (fail_if_success (with_reducible show wpAny _ _ (compareOp CmpOp.Lt (Value.ref _) (Value.ref _)) _ _ _)); (fail_if_success (with_reducible show wpAny _ _ (call (Value.type "enumerate") _ _) _ _ _)); (fail_if_success (with_reducible show wpAny _ _ (exec (Stmt.While _ _ _ _) _) _ _ _)); (fail_if_success (with_reducible show wpAny _ _ (exec (Stmt.For _ _ _ _ _) _) _ _ _)); (fail_if_success (with_reducible show wpAny _ _ (call (Value.ref _) _ _) _ _ _)); (fail_if_success (with_reducible show wpAny _ _ (eval (Expr.ListComp _ _ _ _) _) _ _ _)); walk1; (try dsimp only)))
          rename Fr _ _ _ _ => F12
          rename News _ _ _ _ => N12
          have hDD2 : D11 ≠ D9 := Nat.ne_of_gt (hD11 (D9, listOf (items.drop (left.length - d.toNat)).toArray 0) (by simp))
          have hDt11 : D11 ≠ tl := Nat.ne_of_gt (hD11 (tl, listOf titems.toArray nt) (by simp))
          clear hD11 hDD hDt hsub
          have hsT := hlf.drop (left.length - d.toNat)
          have hsL := hlf.take (left.length - d.toNat)
          have hsrtL : Srt left := (List.pairwise_append.mp hsrt).1
          have hbr := runL_snoc left ties d o
          rw [if_neg (by omega)] at hbr
          have hkl : left.length - d.toNat ≤ left.length := Nat.sub_le _ _
          have hnL : ∀ p ∈ left, 0 ≤ p.1 := fun p hp => hnn' p (by simp [hp])
          generalize left.length - d.toNat = k at *
          refine For_turns F12 ?_
          repeat' (first | (k_unfold; (try dsimp only)) | ((fail_if_success (with_reducible show wpAny _ _ (call (Value.builtin "list.append") _ _) _ _ _)); (fail_if_success (with_reducible show wpAny _ _ (subscriptTail _ (Expr.Slice _ _ _ _) (Value.ref _) (Value.ref _)) _ _ _)); (fail_if_success (with_reducible show wpAny _ _ (compareOp CmpOp.NotEq (Value.ref _) (Value.ref _)) _ _ _)); (fail_if_success (with_reducible show wpAny _ _ (compareOp CmpOp.Eq (Value.ref _) (Value.ref _)) _ _ _)); (fail_if_success (with_reducible show wpAny _ _ (compareOp CmpOp.Lt (Value.ref _) (Value.ref _)) _ _ _)); (fail_if_success (with_reducible show wpAny _ _ (call (Value.type "enumerate") _ _) _ _ _)); (fail_if_success (with_reducible show wpAny _ _ (exec (Stmt.While _ _ _ _) _) _ _ _)); (fail_if_success (with_reducible show wpAny _ _ (exec (Stmt.For _ _ _ _ _) _) _ _ _)); (fail_if_success (with_reducible show wpAny _ _ (call (Value.ref _) _ _) _ _ _)); (fail_if_success (with_reducible show wpAny _ _ (eval (Expr.ListComp _ _ _ _) _) _ _ _)); walk1; (try dsimp only)))
          refine for_pairs rfl rfl rfl rfl (vs := items.drop k) (R := fun j a b => ∃ p, (left.drop k)[j]? = some p ∧ (∃ t, a = .int p.1 t) ∧ ∃ u, b = .int p.2 u) (news_list N12 (.tail _ (.head _))) (N12 (D9, _) (.tail _ (.head _))).2.1 F12
            (news := (D11, listOf (items.take k).toArray 0) :: (tl, listOf titems.toArray nt) :: tups) (N12.perm (by intro p hp; simp at hp ⊢; rcases hp with rfl | rfl | hp <;> simp [*]))
            (fun i m nx => ∃ (l1 t1 : List (Int × Int)) (items1 titems1 : List Value) (n1 nt1 : Nat) (tups1 : List (Addr × Obj)) (v1 v2 : Option Value),
              nx = (D11, listOf items1.toArray n1) :: (tl, listOf titems1.toArray nt1) :: tups1 ∧ Tups tups1 ∧ All2 (PrIn tups1) items1 l1 ∧ All2 (PrIn tups1) titems1 t1 ∧ Srt l1 ∧ (∀ p ∈ l1, 0 ≤ p.1) ∧ l1.length = k + i ∧ t1.length = ties.length + i ∧
              takeL o (left.drop k) (left.take k) ties = takeL o ((left.drop k).drop i) l1 t1 ∧
              m = fun y => if y = (Str.ofString "two") then v2 else if y = (Str.ofString "other") then v1 else if y = (Str.ofString "taken") then some (.ref D9) else if y = (Str.ofString "degree") then some (.int d t) else if y = (Str.ofString "one") then some (.int o u) else if y = (Str.ofString "left") then some (.ref D11) else if y = (Str.ofString "ties") then some (.ref tl) else List.lookup y [((Str.ofString "degrees"), .ref dl)].reverse)
            ?_ [D11, tl] ?_ ?_ ?_ ?_
          · refine ⟨left.take k, ties, items.take k, titems, 0, nt, tups, u2, u1, rfl, htu, hsL, hties, List.Pairwise.sublist (List.take_sublist _ _) hsrtL, fun p hp => hnL p (List.mem_of_mem_take hp), by rw [List.length_take]; omega, rfl, rfl, ?_⟩
            (funext y; first | rfl | ((try dsimp only); by_cases hh0 : y = (Str.ofString "two"); (· subst hh0; rfl); by_cases hh1 : y = (Str.ofString "other"); (· subst hh1; rfl); by_cases hh2 : y = (Str.ofString "taken"); (· subst hh2; rfl); by_cases hh3 : y = (Str.ofString "degree"); (· subst hh3; rfl); by_cases hh4 : y = (Str.ofString "one"); (· subst hh4; rfl); by_cases hh5 : y = (Str.ofString "left"); (· subst hh5; rfl); by_cases hh6 : y = (Str.ofString "ties"); (· subst hh6; rfl); simp only [hh0, hh1, hh2, hh3, hh4, hh5, hh6, if_false]))
          · intro a ha
            simp at ha
            rcases ha with rfl | rfl
            · exact ⟨hDD2, _, .head _⟩
            · exact ⟨Ne.symm hDt9, _, .tail _ (.head _)⟩
          · intro j v hv
            obtain ⟨p, hp, a', t', u', n', rfl, hm'⟩ := hsT.get? hv
            have hmm := N12 (a', _) (.tail _ (.tail _ (.tail _ (.tail _ hm'))))
            refine ⟨a', _, _, rfl, hmm.2.1, ?_, ⟨_, hmm.1, rfl, n', rfl⟩, p, hp, ⟨t', rfl⟩, ⟨u', rfl⟩⟩
            intro hq
            simp at hq
            rcases hq with e | e
            · exact news_ne N12 (.tail _ (.tail _ (.tail _ (.tail _ hm')))) (.head _) (by show Value.type "tuple" ≠ Value.type "list"; exact ne_tup) e
            · exact news_ne N12 (.tail _ (.tail _ (.tail _ (.tail _ hm')))) (.tail _ (.tail _ (.tail _ (.head _)))) (by show Value.type "tuple" ≠ Value.type "list"; exact ne_tup) e
          · rintro i v0 v1 m₁ nx h13 tk13 own wr hi2 ⟨⟨od, tw⟩, hp, ⟨t', rfl⟩, ⟨u', rfl⟩⟩ ⟨l1, t1, items1, titems1, n1, nt1, tups1, w1, w2, rfl, htu1, hl1, ht1, hs1, hnn1, hlen1, htlen1, htake, rfl⟩ hnw hown hoff F13 N13
            dsimp only [envOf] at F13 N13
            k_fold
            repeat' (first | (k_unfold; (try dsimp only)) | ((fail_if_success (with_reducible show wpAny _ _ (call (Value.builtin "list.append") _ _) _ _ _)); (fail_if_success (with_reducible show wpAny _ _ (subscriptTail _ (Expr.Slice _ _ _ _) (Value.ref _) (Value.ref _)) _ _ _)); (fail_if_success (with_reducible show wpAny _ _ (compareOp CmpOp.NotEq (Value.ref _) (Value.ref _)) _ _ _)); (fail_if_success (with_reducible show wpAny _ _ (compareOp CmpOp.Eq (Value.ref _) (Value.ref _)) _ _ _)); (fail_if_success (with_reducible show wpAny _ _ (compareOp CmpOp.Lt (Value.ref _) (Value.ref _)) _ _ _)); (fail_if_success (with_reducible show wpAny _ _ (call (Value.type "enumerate") _ _) _ _ _)); (fail_if_success (with_reducible show wpAny _ _ (exec (Stmt.While _ _ _ _) _) _ _ _)); (fail_if_success (with_reducible show wpAny _ _ (exec (Stmt.For _ _ _ _ _) _) _ _ _)); (fail_if_success (with_reducible show wpAny _ _ (call (Value.ref _) _ _) _ _ _)); (fail_if_success (with_reducible show wpAny _ _ (eval (Expr.ListComp _ _ _ _) _) _ _ _)); walk1; (try dsimp only)))
            · have hod : od = 0 := by assumption
              subst hod
              refine h _ _ _ F13.keep ?_
              rw [heq, hbr, htake, drop_of_get hp]
              rfl
            · have hod : ¬ od = 0 := by assumption
              have hod1 : 0 ≤ od := hnL (od, tw) (List.mem_of_mem_drop (List.mem_of_getElem? hp))
              rename Fr _ _ _ _ => F14
              rename News _ _ _ _ => N14
              rename_i D14 _ hD14
              have hmt : (tl, listOf titems1.toArray nt1) ∈ ((D14, tupO #[.int o u, .int tw u'] 0) :: (own ++ (D11, listOf items1.toArray n1) :: (tl, listOf titems1.toArray nt1) :: tups1)) := by simp
              have hm11 : (D11, listOf items1.toArray n1) ∈ ((D14, tupO #[.int o u, .int tw u'] 0) :: (own ++ (D11, listOf items1.toArray n1) :: (tl, listOf titems1.toArray nt1) :: tups1)) := by simp
              have hsub14 : ∀ q ∈ tups1, q ∈ ((D14, tupO #[.int o u, .int tw u'] 0) :: (own ++ (D11, listOf items1.toArray n1) :: (tl, listOf titems1.toArray nt1) :: tups1)) := fun q hq => by simp [hq]
              have hune : ∀ q ∈ tups1, q.1 ≠ tl := fun q hq => news_ne N14 (hsub14 q hq) hmt (by rw [htu1 q hq]; exact ne_tup)
              have hune11 : ∀ q ∈ tups1, q.1 ≠ D11 := fun q hq => news_ne N14 (hsub14 q hq) hm11 (by rw [htu1 q hq]; exact ne_tup)
              have hD14t : D14 ≠ tl := Nat.ne_of_gt (hD14 (tl, listOf titems1.toArray nt1) (by simp))
              have hD14l : D14 ≠ D11 := Nat.ne_of_gt (hD14 (D11, listOf items1.toArray n1) (by simp))
              have htl14 := N14 _ hmt
              have hil1 := hl1.length
              have hit1 := ht1.length
              have hi3 : i < left.length - k := by simpa [hil] using hi2
              refine append_at (its := titems1.toArray) (n := nt1) htl14.1 ?_ (by simp [sizeLine_eq]; omega)
              intro h15 hs15 ho15
              have hup15 : ∀ b ob, b ≠ tl → Heap.get? _ b = some ob → h15.get? b = some ob := fun b ob hb e => (hs15.2 b hb).trans e
              have F15 := fr_but F14 hup15 htl14.2.1 htl14.2.2
              rw [List.push_toArray] at ho15
              have N15 : News s.heap s.heap.objs.size h15 ((D14, tupO #[.int o u, .int tw u'] 0) :: (own ++ (D11, listOf items1.toArray n1) :: (tl, listOf (titems1 ++ [Value.ref D14]).toArray (nt1 + 1)) :: tups1)) := by
                refine news_cons (hup15 _ _ hD14t (N14 _ (.head _)).1) (N14 _ (.head _)).2.1 (N14 _ (.head _)).2.2 (news_app (news_but (fun p hp => N14 p (by simp [hp])) hup15 fun p hp => hoff p hp tl (by simp)) ?_)
                refine news_cons (hup15 _ _ hDt11 (N14 _ hm11).1) (N14 _ hm11).2.1 (N14 _ hm11).2.2 (news_cons ho15 htl14.2.1 htl14.2.2 (news_but (fun p hp => N14 p (hsub14 p hp)) hup15 hune))
              clear N14 F14 hup15 hs15 ho15 htl14
              repeat' (first | (k_unfold; (try dsimp only)) | ((fail_if_success (with_reducible show wpAny _ _ (call (Value.builtin "list.append") _ _) _ _ _)); (fail_if_success (with_reducible show wpAny _ _ (subscriptTail _ (Expr.Slice _ _ _ _) (Value.ref _) (Value.ref _)) _ _ _)); (fail_if_success (with_reducible show wpAny _ _ (compareOp CmpOp.NotEq (Value.ref _) (Value.ref _)) _ _ _)); (fail_if_success (with_reducible show wpAny _ _ (compareOp CmpOp.Eq (Value.ref _) (Value.ref _)) _ _ _)); (fail_if_success (with_reducible show wpAny _ _ (compareOp CmpOp.Lt (Value.ref _) (Value.ref _)) _ _ _)); (fail_if_success (with_reducible show wpAny _ _ (call (Value.type "enumerate") _ _) _ _ _)); (fail_if_success (with_reducible show wpAny _ _ (exec (Stmt.While _ _ _ _) _) _ _ _)); (fail_if_success (with_reducible show wpAny _ _ (exec (Stmt.For _ _ _ _ _) _) _ _ _)); (fail_if_success (with_reducible show wpAny _ _ (call (Value.ref _) _ _) _ _ _)); (fail_if_success (with_reducible show wpAny _ _ (eval (Expr.ListComp _ _ _ _) _) _ _ _)); walk1; (try dsimp only)))
              rename Fr _ _ _ _ => F16
              rename News _ _ _ _ => N16
              rename_i D16 _ hD16
              have hD16' := allLt_mem hD16.2
              have hDD16 := hD16.1
              clear hD16
              (try clear F15)
              (try clear N15)
              generalize hNN : ((D14, tupO #[.int o u, .int tw u'] 0) :: (own ++ (D11, listOf items1.toArray n1) :: (tl, listOf (titems1 ++ [Value.ref D14]).toArray (nt1 + 1)) :: tups1)) = NN at N16
              have hm11' : (D11, listOf items1.toArray n1) ∈ NN := by subst hNN; simp
              have hmt' : (tl, listOf (titems1 ++ [Value.ref D14]).toArray (nt1 + 1)) ∈ NN := by subst hNN; simp
              have hsub16 : ∀ q ∈ tups1, q ∈ NN := fun q hq => by subst hNN; simp [hq]
              have hm14' : (D14, tupO #[.int o u, .int tw u'] 0) ∈ NN := by subst hNN; simp
              have hown16 : ∀ q ∈ own, q ∈ NN := fun q hq => by subst hNN; simp [hq]
              clear hNN
              have h11 := N16 _ (.tail _ hm11')
              refine insort_spec (dp := dp + 1) (un := un + 3) X0 T0 F16.keep (Nat.le_trans F16.above (Nat.le_of_lt F16.ns.lt)) (n := n1) (items := items1) (ps := l1) (p := (od - 1, tw)) h11.2.2 h11.1
                (hl1.mono fun v p q => q.isPr N16 fun q hq => .tail _ (hsub16 q hq)) ⟨D16, _, u', rfl, _, (N16 _ (.head _)).1, rfl, 0, rfl⟩ hs1 (by omega) (by omega) (by omega) ?_
              intro k7 h17 tk17 hk17 hup17 hal17
              have F17 := fr_but F16 hup17 h11.2.1 h11.2.2
              have hD16l : D16 ≠ D11 := Nat.ne_of_gt (hD16' (D11, listOf items1.toArray n1) (by simp))
              have N17 : News s.heap s.heap.objs.size h17 (own ++ (D11, listOf (items1.take k7 ++ Value.ref D16 :: items1.drop k7).toArray (n1 + 1)) :: (tl, listOf (titems1 ++ [Value.ref D14]).toArray (nt1 + 1)) :: (D16, tupO #[.int (od - 1) (tk + 1), .int tw u'] 0) :: (D14, tupO #[.int o u, .int tw u'] 0) :: tups1) := by
                refine news_app (news_but (fun p hp => N16 p (.tail _ (hown16 p hp))) hup17 fun p hp => hoff p hp D11 (by simp)) (news_cons hal17 h11.2.1 h11.2.2 ?_)
                refine news_cons (hup17 _ _ (Ne.symm hDt11) (N16 _ (.tail _ hmt')).1) (N16 _ (.tail _ hmt')).2.1 (N16 _ (.tail _ hmt')).2.2 ?_
                refine news_cons (hup17 _ _ hD16l (N16 _ (.head _)).1) (N16 _ (.head _)).2.1 (N16 _ (.head _)).2.2 ?_
                exact news_cons (hup17 _ _ hD14l (N16 _ (.tail _ hm14')).1) (N16 _ (.tail _ hm14')).2.1 (N16 _ (.tail _ hm14')).2.2 (news_but (fun p hp => N16 p (.tail _ (hsub16 p hp))) hup17 hune11)
              repeat' (first | (k_unfold; (try dsimp only)) | ((fail_if_success (with_reducible show wpAny _ _ (call (Value.builtin "list.append") _ _) _ _ _)); (fail_if_success (with_reducible show wpAny _ _ (subscriptTail _ (Expr.Slice _ _ _ _) (Value.ref _) (Value.ref _)) _ _ _)); (fail_if_success (with_reducible show wpAny _ _ (compareOp CmpOp.NotEq (Value.ref _) (Value.ref _)) _ _ _)); (fail_if_success (with_reducible show wpAny _ _ (compareOp CmpOp.Eq (Value.ref _) (Value.ref _)) _ _ _)); (fail_if_success (with_reducible show wpAny _ _ (compareOp CmpOp.Lt (Value.ref _) (Value.ref _)) _ _ _)); (fail_if_success (with_reducible show wpAny _ _ (call (Value.type "enumerate") _ _) _ _ _)); (fail_if_success (with_reducible show wpAny _ _ (exec (Stmt.While _ _ _ _) _) _ _ _)); (fail_if_success (with_reducible show wpAny _ _ (exec (Stmt.For _ _ _ _ _) _) _ _ _)); (fail_if_success (with_reducible show wpAny _ _ (call (Value.ref _) _ _) _ _ _)); (fail_if_success (with_reducible show wpAny _ _ (eval (Expr.ListComp _ _ _ _) _) _ _ _)); walk1; (try dsimp only)))
              refine TurnQ.intro F17 N17 ?_ ⟨ins (od - 1, tw) l1, t1 ++ [(o, tw)], _, _, n1 + 1, nt1 + 1, _, some (.int od t'), some (.int tw u'), rfl, ?_, ?_, ?_, ins_srt hs1, ?_, ?_, ?_, ?_, ?_⟩
              · intro q hq
                simp at hq
                rcases hq with rfl | rfl | rfl | rfl | hq
                · exact hnw (D11, listOf items1.toArray n1) (by simp)
                · exact hnw (tl, listOf titems1.toArray nt1) (by simp)
                · intro hw
                  obtain ⟨ob, ho⟩ := hown _ hw
                  exact absurd (hD16' (D16, ob) (by simp [ho])) (Nat.lt_irrefl _)
                · intro hw
                  obtain ⟨ob, ho⟩ := hown _ hw
                  exact absurd (hD14 (D14, ob) (by simp [ho])) (Nat.lt_irrefl _)
                · exact hnw _ (by simp [hq])
              · intro q hq
                simp at hq
                rcases hq with rfl | rfl | hq
                · rfl
                · rfl
                · exact htu1 q hq
              · exact ins_all2 (hl1.mono fun _ _ q => q.mono fun _ hq => .tail _ (.tail _ hq)) ⟨D16, _, u', 0, rfl, .head _⟩ hk17
              · exact (ht1.mono fun _ _ q => q.mono fun _ hq => .tail _ (.tail _ hq)).append (.cons ⟨D14, u, u', 0, rfl, .tail _ (.head _)⟩ .nil)
              · intro p hp'
                rcases ins_mem.mp hp' with rfl | hp'
                · show 0 ≤ od - 1
                  omega
                · exact hnn1 p hp'
              · rw [ins_length]; omega
              · simp; omega
              · rw [htake, drop_of_get hp, takeL, if_neg hod]
              · skip
                (funext y; first | rfl | ((try dsimp only); by_cases hh0 : y = (Str.ofString "two"); (· subst hh0; rfl); by_cases hh1 : y = (Str.ofString "other"); (· subst hh1; rfl); by_cases hh2 : y = (Str.ofString "taken"); (· subst hh2; rfl); by_cases hh3 : y = (Str.ofString "degree"); (· subst hh3; rfl); by_cases hh4 : y = (Str.ofString "one"); (· subst hh4; rfl); by_cases hh5 : y = (Str.ofString "left"); (· subst hh5; rfl); by_cases hh6 : y = (Str.ofString "ties"); (· subst hh6; rfl); simp only [hh0, hh1, hh2, hh3, hh4, hh5, hh6, if_false]))
          · rintro h18 tk18 m18 nx18 F18 N18 ⟨l1, t1, items1, titems1, n1, nt1, tups1, w1, w2, rfl, htu1, hl1, ht1, hs1, hnn1, hlen1, htlen1, htake, rfl⟩
            dsimp only [envOf] at F18 N18
            repeat' (first | (k_unfold; (try dsimp only)) | ((fail_if_success (with_reducible show wpAny _ _ (call (Value.builtin "list.append") _ _) _ _ _)); (fail_if_success (with_reducible show wpAny _ _ (subscriptTail _ (Expr.Slice _ _ _ _) (Value.ref _) (Value.ref _)) _ _ _)); (fail_if_success (with_reducible show wpAny _ _ (compareOp CmpOp.NotEq (Value.ref _) (Value.ref _)) _ _ _)); (fail_if_success (with_reducible show wpAny _ _ (compareOp CmpOp.Eq (Value.ref _) (Value.ref _)) _ _ _)); (fail_if_success (with_reducible show wpAny _ _ (compareOp CmpOp.Lt (Value.ref _) (Value.ref _)) _ _ _)); (fail_if_success (with_reducible show wpAny _ _ (call (Value.type "enumerate") _ _) _ _ _)); (fail_if_success (with_reducible show wpAny _ _ (exec (Stmt.While _ _ _ _) _) _ _ _)); (fail_if_success (with_reducible show wpAny _ _ (exec (Stmt.For _ _ _ _ _) _) _ _ _)); (fail_if_success (with_reducible show wpAny _ _ (call (Value.ref _) _ _) _ _ _)); (fail_if_success (with_reducible show wpAny _ _ (eval (Expr.ListComp _ _ _ _) _) _ _ _)); walk1; (try dsimp only)))
            have hli : (items.drop k).length = (left.drop k).length := hsT.length
            have hll : (items.drop k).length = left.length - k := by rw [hli]; simp
            rw [hli, List.drop_length, takeL] at htake
            rw [htake] at hbr
            have hbr' : tied ds = runL left.length l1 t1 := heq.trans hbr
            have hle1 : l1.length = left.length := by omega
            refine wstep F18 N18 (n' := l1.length) (by rw [List.length_append, List.length_singleton]; omega) ?_
            refine ⟨l1, t1, D11, tl, items1, titems1, n1, nt1, tups1, w2, w1, some (.ref D9), some (.int d t), some (.int o u), rfl, htu1, hDt11, hl1, ht1, hs1, hnn1, rfl, by omega, by omega, by rw [hle1]; exact hbr', ?_⟩
            (funext y; first | rfl | ((try dsimp only); by_cases hh0 : y = (Str.ofString "two"); (· subst hh0; rfl); by_cases hh1 : y = (Str.ofString "other"); (· subst hh1; rfl); by_cases hh2 : y = (Str.ofString "taken"); (· subst hh2; rfl); by_cases hh3 : y = (Str.ofString "degree"); (· subst hh3; rfl); by_cases hh4 : y = (Str.ofString "one"); (· subst hh4; rfl); by_cases hh5 : y = (Str.ofString "left"); (· subst hh5; rfl); by_cases hh6 : y = (Str.ofString "ties"); (· subst hh6; rfl); simp only [hh0, hh1, hh2, hh3, hh4, hh5, hh6, if_false]))

end Mine
end TTie
section TCom
open PyProof.Rows.LCg (NsObj ns_obj lst lst_snoc)
set_option autoImplicit false
namespace Mine

section
variable {prog : Program} {w : World} {A : Around} {R : Result → Shared → Prop} {s : Shared}
theorem compLoop_gen {elt target iter : Expr} {ifs : List Expr} {scope : Scope} {pos : Pos} {it acc : Value} {env : Env} (I : Nat → Shared → Prop)
    (turn : ∀ n s, I n s → wpAny (model prog w) A (pyNext it) (fun r s₁ => match r with
      | none => R (.ok .next) s₁
      | some v => wpAny (model prog w) A (letOwnedTupleGo target it v) (fun _ s₁' => wpAny (model prog w) A (assign target env v) (fun _ s₂ =>
          wpAny (model prog w) A (forIn ifs true fun c r => if r = true then do let ok ← isTrue c env (eval c env); pure (ForInStep.yield ok) else pure (ForInStep.yield r)) (fun ok s₃ =>
            if ok = true then wpAny (model prog w) A (eval elt env) (fun x s₄ =>
              wpAny (model prog w) A (call (.builtin "list.append") [acc, x]) (fun _ s₅ => ∃ m, m < n ∧ I m s₅) (notedBy (model prog w) A env fun e s' => R (.error e) s') s₄) (notedBy (model prog w) A env fun e s' => R (.error e) s') s₃
            else ∃ m, m < n ∧ I m s₃) (notedBy (model prog w) A env fun e s' => R (.error e) s') s₂) (notedBy (model prog w) A env fun e s' => R (.error e) s') s₁') (notedBy (model prog w) A env fun e s' => R (.error e) s') s₁) (notedBy (model prog w) A env fun e s' => R (.error e) s') s)
    (n : Nat) (h : I n s) :
    codeAny (model prog w) A (.compLoop (.ListComp elt [⟨target, iter, ifs, 0⟩] scope pos) 0 it acc env) R s := by
  refine codeAny_loop rfl I (fun n s hI => ?_) n h
  show wpAny _ A ((compTurn (.ListComp elt [⟨target, iter, ifs, 0⟩] scope pos) 0 it acc env).onRaise (fun x => do noteFrame x env; theTreesLotGoes x)) _ _ s
  refine wpAny_noted ?_
  rw [compTurn_list]
  refine wpAny_bind (wpAny_standAt (wpAny_bind (wpAny_mono (turn n s hI) (fun r s₁ h₁ => ?_) fun _ _ h' => h')))
  cases r with
  | none => exact wpAny_pure h₁
  | some v =>
    refine wpAny_bind (wpAny_mono h₁ (fun _ s₁' h₁ => ?_) fun _ _ h' => h')
    refine wpAny_bind (wpAny_mono h₁ (fun _ s₂ h₂ => wpAny_bind (wpAny_mono h₂ (fun ok s₃ h₃ => ?_) fun _ _ h' => h')) fun _ _ h' => h')
    cases ok with
    | false => exact wpAny_pure ⟨rfl, h₃⟩
    | true =>
      exact wpAny_bind (wpAny_bind (wpAny_mono h₃ (fun x s₄ h₄ => wpAny_bind (wpAny_mono h₄ (fun _ s₅ h₅ => wpAny_pure (wpAny_pure ⟨rfl, h₅⟩)) fun _ _ h' => h')) fun _ _ h' => h'))
end

def CompQ (h₀ : Heap) (L : Addr) (m : Str → Option Value) (wr : List Addr) (own : List (Addr × Obj)) (C : Addr) (oC : Obj) (D : Addr) (ys : List Value) (J : List Value → List (Addr × Obj) → Prop) (s₁ : Shared) (y : Value) (s₂ : Shared) : Prop :=
  ∃ h' tk nx, s₂ = { s₁ with heap := h', toks := tk } ∧ Fr h₀ L h' m ∧ News h₀ L h' (own ++ (C, oC) :: (D, lst ys) :: nx) ∧ (∀ q ∈ nx, q.1 ∉ wr ∧ q.1 ≠ C ∧ q.1 ≠ D) ∧ J (ys ++ [y]) nx
def CompT (h₀ : Heap) (L : Addr) (m : Str → Option Value) (wr : List Addr) (own : List (Addr × Obj)) (C : Addr) (oC : Obj) (D : Addr) (ys : List Value) (nx : List (Addr × Obj)) (p : Bool) (s₁ : Shared) (ok : Bool) (s₂ : Shared) : Prop :=
  ∃ h' tk, s₂ = { s₁ with heap := h', toks := tk } ∧ Fr h₀ L h' m ∧ News h₀ L h' (own ++ (C, oC) :: (D, lst ys) :: nx) ∧ ok = p
theorem CompQ.intro {h₀ : Heap} {L : Addr} {m : Str → Option Value} {wr : List Addr} {own : List (Addr × Obj)} {C : Addr} {oC : Obj} {D : Addr} {ys : List Value} {J : List Value → List (Addr × Obj) → Prop} {s₁ : Shared} {y : Value} {h' : Heap} {tk : Nat} {nx : List (Addr × Obj)}
    (F : Fr h₀ L h' m) (N : News h₀ L h' (own ++ (C, oC) :: (D, lst ys) :: nx)) (hq : ∀ q ∈ nx, q.1 ∉ wr ∧ q.1 ≠ C ∧ q.1 ≠ D) (hJ : J (ys ++ [y]) nx) : CompQ h₀ L m wr own C oC D ys J s₁ y { s₁ with heap := h', toks := tk } := ⟨h', tk, nx, rfl, F, N, hq, hJ⟩
theorem CompT.intro {h₀ : Heap} {L : Addr} {m : Str → Option Value} {wr : List Addr} {own : List (Addr × Obj)} {C : Addr} {oC : Obj} {D : Addr} {ys : List Value} {s₁ : Shared} {ok : Bool} {h' : Heap} {tk : Nat} {nx : List (Addr × Obj)}
    (F : Fr h₀ L h' m) (N : News h₀ L h' (own ++ (C, oC) :: (D, lst ys) :: nx)) : CompT h₀ L m wr own C oC D ys nx ok s₁ ok { s₁ with heap := h', toks := tk } := ⟨h', tk, rfl, F, N, rfl⟩

section
variable {prog : Program} {w : World} {A : Around} {E : Value → Shared → Prop} {s s₂ : Shared} {h₀ : Heap} {L : Addr} {m : Str → Option Value} {env : Env}

/-- the turns of a comprehension over any source -/
theorem comp_block {elt target iter : Expr} {ifs : List Expr} {scope : Scope} {cl : List (Str × Addr)} {pos : Pos} {I : Addr} {fp wr : List Addr} {n : Nat} {P Md : Nat → Value → Heap → Prop} {St : Nat → Heap → Prop} {news : List (Addr × Obj)}
    {Q : Value → Shared → Prop} (B : Nat → (Str → Option Value) → Prop) (p : Nat → Bool)
    (W : KTurns prog w A target I fp wr n P Md St) (hself : ∀ (s : Shared) (Q : Value → Shared → Prop) (E : Value → Shared → Prop), St 0 s.heap → Q (.ref I) s → wpAny (model prog w) A (pyIter (.ref I)) Q E s)
    (hsz : n ≤ sizeLine) (hex : ∀ i h, St i h → ∀ b ∈ wr, ∃ o, h.get? b = some o) (hfp : ∀ b ∈ fp, b < s₂.heap.objs.size)
    (hcell : ∀ y ∈ scope.names, y.2 ≠ .cell) (hkind : scope.kind = .function)
    (hassign : ∀ C i v (s' : Shared) (mC : Str → Option Value) (Q' : Unit → Shared → Prop) (E' : Value → Shared → Prop), P i v s'.heap → s'.heap.Ns C mC →
      (∀ h' tk mC', h'.Ns C mC' → B i mC' → (∀ b o, b ≠ C → s'.heap.get? b = some o → h'.get? b = some o) → Q' () { s' with heap := h', toks := tk }) → wpAny (model prog w) A (assign target (compEnvC scope cl C env) v) Q' E' s')
    (hLf : L ∉ fp) (hwr : ∀ b ∈ wr, h₀.get? b = none) (hnw : ∀ q ∈ news, q.1 ∉ wr) (hst : St 0 s₂.heap) (F : Fr h₀ L s₂.heap m) (N : News h₀ L s₂.heap news)
    (J : Nat → List Value → List (Addr × Obj) → Prop) (h0 : J 0 [] news)
    (step : ∀ i mC ys nx h tk own C oC D (E' : Value → Shared → Prop), i < n → B i mC → NsObj oC mC → J i ys nx → (∀ q ∈ nx, q.1 ∉ wr ∧ q.1 ≠ C ∧ q.1 ≠ D) → (∀ b ∈ wr, ∃ o, (b, o) ∈ own) →
      Fr h₀ L h m → News h₀ L h (own ++ (C, oC) :: (D, lst ys) :: nx) →
      wpAny (model prog w) A (forIn ifs true fun c r => if r = true then do let ok ← isTrue c (compEnvC scope cl C env) (eval c (compEnvC scope cl C env)); pure (ForInStep.yield ok) else pure (ForInStep.yield r))
        (CompT h₀ L m wr own C oC D ys nx (p i) { s₂ with heap := h, toks := tk }) E' { s₂ with heap := h, toks := tk } ∧
      (p i = false → J (i + 1) ys nx) ∧
      ∀ h tk, p i = true → Fr h₀ L h m → News h₀ L h (own ++ (C, oC) :: (D, lst ys) :: nx) → wpAny (model prog w) A (eval elt (compEnvC scope cl C env)) (CompQ h₀ L m wr own C oC D ys (J (i + 1)) s₂) E' { s₂ with heap := h, toks := tk })
    (done : ∀ D h' tk ys nx, Fr h₀ L h' m → News h₀ L h' ((D, lst ys) :: nx) → (∀ q ∈ nx, q.1 ≠ D) → J n ys nx → Q (.ref D) { s₂ with heap := h', toks := tk }) :
    wpAny (model prog w) A (newList []) (fun acc s₃ => wpAny (model prog w) A (newFunctionEnv scope env.globals cl [] env.qual none .none (some env)) (fun cenv s₄ =>
      codeAny (model prog w) A (.compStart (.ListComp elt [⟨target, iter, ifs, 0⟩] scope pos) 0 (.ref I) acc { cenv with scope := relabel scope env }) (compPost (model prog w) A E none Q acc cenv.locals) s₄) E s₃) E s₂ := by
  refine wpAny_newObj_type (wpAny_newFunctionEnv hcell (by intro y hy; simp at hy) (fun h₁ hns₁ hsb₁ => ?_) hkind)
  dsimp only at hns₁ hsb₁ ⊢
  generalize hH2 : s₂.heap.push { cls := .type "list", dict := none, data := .seq ([] : List Value).toArray } = H2 at hns₁ hsb₁ ⊢
  have hC : H2.objs.size = s₂.heap.objs.size + 1 := by rw [← hH2, Heap.size_push]
  have hDC : s₂.heap.objs.size ≠ H2.objs.size := by rw [hC]; exact Nat.ne_of_lt (Nat.lt_succ_self _)
  have below : ∀ b, b < s₂.heap.objs.size → b ≠ H2.objs.size ∧ b ≠ s₂.heap.objs.size := fun b hb => ⟨by rw [hC]; exact Nat.ne_of_lt (Nat.lt_succ_of_lt hb), Nat.ne_of_lt hb⟩
  have hDf : s₂.heap.objs.size ∉ fp := fun hm => Nat.lt_irrefl _ (hfp _ hm)
  have hCf : H2.objs.size ∉ fp := fun hm => by have := hfp _ hm; rw [hC] at this; exact Nat.lt_irrefl _ (Nat.lt_of_succ_lt this)
  have old : ∀ b o, s₂.heap.get? b = some o → h₁.get? b = some o := fun b o e => hsb₁.extBut b o (below b (Heap.lt_size e)).1 (Heap.get?_push_of_some _ (hH2 ▸ Heap.get?_push_of_some _ e))
  have hacc : h₁.get? s₂.heap.objs.size = some (lst []) := hsb₁.extBut _ _ hDC (Heap.get?_push_of_some _ (hH2 ▸ Heap.get?_push_size _ rfl))
  have hst₁ : St 0 h₁ := W.frame _ _ _ hst fun b _ o e => old b o e
  have fresh : ∀ a, s₂.heap.objs.size ≤ a → s₂.heap.get? a = none := fun a ha => by
    cases e : s₂.heap.get? a with
    | none => rfl
    | some o' => exact absurd (Heap.lt_size e) (Nat.not_lt.mpr ha)
  have fresh₀ : ∀ a, s₂.heap.objs.size ≤ a → h₀.get? a = none := fun a ha => by
    cases e : h₀.get? a with
    | none => rfl
    | some o' => have := F.keep a o' e; rw [fresh a ha] at this; cases this
  have hD₀ : h₀.get? s₂.heap.objs.size = none := fresh₀ _ (Nat.le_refl _)
  have hC₀ : h₀.get? H2.objs.size = none := fresh₀ _ (by rw [hC]; exact Nat.le_succ _)
  have hLlt : L < s₂.heap.objs.size := F.ns.lt
  have hDL : s₂.heap.objs.size ≠ L := Ne.symm (below L hLlt).2
  have hCL : H2.objs.size ≠ L := Ne.symm (below L hLlt).1
  have hLw : L ∉ wr := fun h => hLf (W.sub _ h)
  have hCw : H2.objs.size ∉ wr := fun h => hCf (W.sub _ h)
  have hDw : s₂.heap.objs.size ∉ wr := fun h => hDf (W.sub _ h)
  have old₀ : ∀ b o, h₀.get? b = some o → b ∉ wr := fun b o e hb => by rw [hwr b hb] at e; cases e
  have off₀ : ∀ q ∈ news, q.1 ∉ wr ∧ q.1 ≠ H2.objs.size ∧ q.1 ≠ s₂.heap.objs.size := fun q hq => ⟨hnw q hq, below _ (Heap.lt_size (N q hq).1)⟩
  have loop : ∀ s₃ : Shared, s₃ = { s₂ with heap := h₁, toks := s₂.toks + ([] : List (Str × Value)).length } →
      codeAny (model prog w) A (.compLoop (.ListComp elt [⟨target, iter, ifs, 0⟩] scope pos) 0 (.ref I) (.ref s₂.heap.objs.size) (compEnvC scope cl H2.objs.size env))
        (compPost (model prog w) A E none Q (.ref s₂.heap.objs.size) H2.objs.size) s₃ := by
    rintro s₃ rfl
    refine compLoop_gen
      (fun k s' => ∃ h' tk i ys m' nx, s' = { s₂ with heap := h', toks := tk } ∧ i ≤ n ∧ k = n + 1 - i ∧ ys.length ≤ i ∧ St i h' ∧ Fr h₀ L h' m ∧ h'.Ns H2.objs.size m' ∧ News h₀ L h' ((s₂.heap.objs.size, lst ys) :: nx) ∧
        (∀ q ∈ nx, q.1 ∉ wr ∧ q.1 ≠ H2.objs.size ∧ q.1 ≠ s₂.heap.objs.size) ∧ J i ys nx) ?_ (n + 1)
      ⟨h₁, _, 0, [], _, news, rfl, Nat.zero_le _, rfl, Nat.le_refl _, hst₁, F.keeps old, hns₁, fun p hp => ?_, off₀, h0⟩
    · rintro k s' ⟨h', tk, i, ys, m', nx, rfl, hi, rfl, hyl, hst', F', hn', N', off', hJ⟩
      have next : ∀ hh : Heap, (∀ b o, b ∉ wr → h'.get? b = some o → hh.get? b = some o) → Fr h₀ L hh m ∧ News h₀ L hh ((s₂.heap.objs.size, lst ys) :: nx) ∧ hh.Ns H2.objs.size m' := fun hh hk =>
        ⟨⟨F'.ns.at' fun o e => hk _ o hLw e, fun b o e => hk b o (old₀ b o e) (F'.keep b o e), F'.above⟩, fun q hq => ⟨hk _ _ (by
          rcases List.mem_cons.mp hq with rfl | hq
          · exact hDw
          · exact (off' q hq).1) (N' q hq).1, (N' q hq).2⟩, hn'.at' fun o e => hk _ o hCw e⟩
      by_cases hlt : i < n
      · refine W.item i _ _ _ hlt hst' fun v h₂ tk₂ hMd hk₂ => ?_
        refine W.go i v _ _ _ hMd fun h₃ hP hst₃ hk₃ => ?_
        obtain ⟨F₃, N₃, hn₃⟩ := next h₃ fun b o hb e => hk₃ b o hb (hk₂ b o hb e)
        refine hassign H2.objs.size i v _ m' _ _ hP hn₃ fun h₄ tk₄ mC hn₄ hB hk₄ => ?_
        have F₄ : Fr h₀ L h₄ m := ⟨F₃.ns.at' fun o e => hk₄ _ o (Ne.symm hCL) e, fun b o e => hk₄ b o (fun q => by rw [q, hC₀] at e; cases e) (F₃.keep b o e), F₃.above⟩
        have N₄ : News h₀ L h₄ ((s₂.heap.objs.size, lst ys) :: nx) := fun q hq => ⟨hk₄ _ _ (by
          rcases List.mem_cons.mp hq with rfl | hq
          · exact hDC
          · exact (off' q hq).2.1) (N₃ q hq).1, (N₃ q hq).2⟩
        have hst₄ : St (i + 1) h₄ := W.frame _ _ _ hst₃ fun b hb o e => hk₄ b o (fun q => hCf (q ▸ hb)) e
        obtain ⟨oC, heC, hoC⟩ := ns_obj hn₄
        have Nown : News h₀ L h₄ (PyProof.Rows.ownOf h₀ fp h₄) := news_ownOf hLf
        have Nall : News h₀ L h₄ (PyProof.Rows.ownOf h₀ fp h₄ ++ (H2.objs.size, oC) :: (s₂.heap.objs.size, lst ys) :: nx) := by
          intro q hq
          rcases List.mem_append.mp hq with hq | hq
          · exact Nown q hq
          · rcases List.mem_cons.mp hq with rfl | hq
            · exact ⟨heC, hCL, hC₀⟩
            · exact N₄ q hq
        have hwo : ∀ b ∈ wr, ∃ o, (b, o) ∈ PyProof.Rows.ownOf h₀ fp h₄ := fun b hb => by
          obtain ⟨o, ho⟩ := hex _ _ hst₄ b hb
          exact ⟨o, mem_ownOf (W.sub b hb) (hwr b hb) ho⟩
        have back : ∀ hh : Heap, Fr h₀ L hh m → News h₀ L hh (PyProof.Rows.ownOf h₀ fp h₄) → St (i + 1) hh := fun hh Fh Nh => W.frame _ _ _ hst₄ fun b hb o e => by
          cases hn : h₀.get? b with
          | some o₀ =>
            have : o₀ = o := by have q := F₄.keep b o₀ hn; rw [e] at q; exact (Option.some.inj q).symm
            exact this ▸ Fh.keep b o₀ hn
          | none => exact (Nh _ (mem_ownOf hb hn e)).1
        obtain ⟨s1, s2, s3⟩ := step i mC ys nx h₄ tk₄ (PyProof.Rows.ownOf h₀ fp h₄) H2.objs.size oC s₂.heap.objs.size (notedBy (model prog w) A (compEnvC scope cl H2.objs.size env) fun e s' => compPost (model prog w) A E none Q (.ref s₂.heap.objs.size) H2.objs.size (.error e) s') hlt hB hoC hJ off' hwo F₄ Nall
        refine wpAny_mono s1 (fun ok s₅ h5 => ?_) fun _ _ e => e
        obtain ⟨h₅, tk₅, rfl, F₅, N₅, rfl⟩ := h5
        cases hp : p i with
        | false =>
          simp only [Bool.false_eq_true, if_false]
          exact ⟨n + 1 - (i + 1), by omega, h₅, tk₅, i + 1, ys, mC, nx, rfl, hlt, rfl, Nat.le_succ_of_le hyl, back _ F₅ (fun q hq => N₅ q (List.mem_append_left _ hq)), F₅,
            hoC.ns (N₅ (H2.objs.size, oC) (List.mem_append_right _ (.head _))).1, fun q hq => N₅ q (List.mem_append_right _ (.tail _ hq)), off', s2 hp⟩
        | true =>
          simp only [if_true]
          refine wpAny_mono (s3 h₅ tk₅ hp F₅ N₅) (fun y s₆ h6 => ?_) fun _ _ e => e
          obtain ⟨h₆, tk₆, nx₆, rfl, F₆, N₆, off₆, hJ₆⟩ := h6
          have zC := (N₆ (H2.objs.size, oC) (List.mem_append_right _ (.head _))).1
          have zD := (N₆ (s₂.heap.objs.size, lst ys) (List.mem_append_right _ (.tail _ (.head _)))).1
          have hst₆ := back _ F₆ (fun q hq => N₆ q (List.mem_append_left _ hq))
          refine append_at (hsz := by show ys.toArray.size ≤ sizeLine; rw [List.size_toArray]; exact Nat.le_trans hyl (Nat.le_trans hi hsz)) zD fun h₇ hs₇ hD₇ => ?_
          refine ⟨n + 1 - (i + 1), by omega, h₇, tk₆, i + 1, ys ++ [y], mC, nx₆, rfl, hlt, rfl, by rw [List.length_append, List.length_singleton]; exact Nat.succ_le_succ hyl, W.frame _ _ _ hst₆ fun b hb o e => hs₇.extBut b o (fun q => hDf (q ▸ hb)) e, F₆.change hs₇ hDL hD₀,
            (hoC.ns zC).sameBut hs₇ (Ne.symm hDC), fun q hq => ?_, off₆, hJ₆⟩
          rcases List.mem_cons.mp hq with rfl | hq
          · exact ⟨hD₇.trans (congrArg some (lst_snoc ys y)), hDL, hD₀⟩
          · have z := N₆ q (List.mem_append_right _ (.tail _ (.tail _ hq)))
            exact ⟨hs₇.extBut _ _ (off₆ q hq).2.2 z.1, z.2⟩
      · obtain rfl : i = n := Nat.le_antisymm hi (Nat.not_lt.mp hlt)
        refine W.done _ _ _ hst' fun h₂ tk₂ hk₂ => ?_
        obtain ⟨F₂, N₂, hn₂⟩ := next h₂ hk₂
        refine ⟨m', hn₂, fun h'' hs'' => done _ h'' tk₂ ys nx (F₂.change hs'' hCL hC₀) (fun q hq => ?_) (fun q hq => (off' q hq).2.2) hJ⟩
        refine ⟨hs''.extBut _ _ ?_ (N₂ q hq).1, (N₂ q hq).2⟩
        rcases List.mem_cons.mp hq with rfl | hq
        · exact hDC
        · exact (off' q hq).2.1
    · rcases List.mem_cons.mp hp with rfl | hp
      · exact ⟨hacc, hDL, hD₀⟩
      · exact ⟨old _ _ (N p hp).1, (N p hp).2⟩
  exact codeAny_compStart_list (loop _ rfl) (hself _ _ _ hst₁ (loop _ rfl))

def CompAt (prog : Program) (w : World) (A : Around) (E : Value → Shared → Prop) (env : Env) (elt target iter : Expr) (ifs : List Expr) (scope : Scope) (cl : List (Str × Addr)) (pos : Pos) (Q : Value → Shared → Prop) (it : Value) (s₂ : Shared) : Prop :=
  wpAny (model prog w) A (newList []) (fun acc s₃ => wpAny (model prog w) A (newFunctionEnv scope env.globals cl [] env.qual none .none (some env)) (fun cenv s₄ =>
      codeAny (model prog w) A (.compStart (.ListComp elt [⟨target, iter, ifs, 0⟩] scope pos) 0 it acc { cenv with scope := relabel scope env }) (compPost (model prog w) A E none Q acc cenv.locals) s₄) E s₃) E s₂

theorem my_comp {elt target iter : Expr} {ifs : List Expr} {scope : Scope} {cl : List (Str × Addr)} {pos : Pos} {Q : Value → Shared → Prop}
    (hclos : closureFor scope env = pure cl) (hkind : scope.kind = .function) (hnames : ∀ y ∈ scope.names, y.2 = .local → scope.names.lookup y.1 = some .local)
    (h : wpAny (model prog w) A (eval iter env) (fun xv s₁ => wpAny (model prog w) A (pyIter xv) (fun it s₂ => CompAt prog w A E env elt target iter ifs scope cl pos Q it s₂) E s₁) E s)
    (hs : ∀ x, foldedSetIterable iter env x = pure x := by intro _; rfl) :
    wpAny (model prog w) A (eval (.ListComp elt [⟨target, iter, ifs, 0⟩] scope pos) env) Q E s := by
  rw [eval_ListComp]
  exact wpAny_comprehension_free (use := none) rfl hs hclos hkind hnames h

theorem assign_comp_name {x : Str} {px : Pos} {scope : Scope} {cl : List (Str × Addr)} (hkind : scope.kind = .function) (hx : scope.names.lookup x = some .local) (C : Addr) (v : Value) (s' : Shared) (mC : Str → Option Value) (Q' : Unit → Shared → Prop) (E' : Value → Shared → Prop)
    (hn : s'.heap.Ns C mC) (hk : ∀ h' tk mC', h'.Ns C mC' → mC' x = some v → (∀ b o, b ≠ C → s'.heap.get? b = some o → h'.get? b = some o) → Q' () { s' with heap := h', toks := tk }) :
    wpAny (model prog w) A (assign (.Name x px) (compEnvC scope cl C env) v) Q' E' s' :=
  wpAny_assign_Name (wpAny_storeName_local (lookup_relabel_local hx) hn (fun h' hn' hs' => hk h' _ _ hn' (by simp) fun b o hb e => hs'.extBut b o hb e) (by simp [compEnvC, relabel, hkind]))

theorem assign_comp_pair {xi xc : Str} {pk pv pt : Pos} {x1 : Nat} {scope : Scope} {cl : List (Str × Addr)} (hh : A.handled = none) (hkind : scope.kind = .function) (hxi : scope.names.lookup xi = some .local) (hxc : scope.names.lookup xc = some .local) (hne : xi ≠ xc)
    (C : Addr) (T : Addr) (v0 v1 : Value) (s' : Shared) (mC : Str → Option Value) (Q' : Unit → Shared → Prop) (E' : Value → Shared → Prop) (hT : s'.heap.IsTuple T #[v0, v1])
    (hn : s'.heap.Ns C mC) (hk : ∀ h' tk mC', h'.Ns C mC' → (mC' xi = some v0 ∧ mC' xc = some v1) → (∀ b o, b ≠ C → s'.heap.get? b = some o → h'.get? b = some o) → Q' () { s' with heap := h', toks := tk }) :
    wpAny (model prog w) A (assign (.Tuple [.Name xi pk, .Name xc pv] x1 pt) (compEnvC scope cl C env) (.ref T)) Q' E' s' := by
  refine wpAny_assign_Tuple hh hT rfl rfl fun h₃ hx₃ => ?_
  replace hx₃ : Heap.ExtBut s'.heap.objs.size s'.heap h₃ := hx₃
  have up₃ : ∀ b o, s'.heap.get? b = some o → h₃.get? b = some o := fun b o x => hx₃ b o (Nat.ne_of_lt (Heap.lt_size x)) x
  show wpAny _ A (do holding [v1] (assign (.Name xi pk) (compEnvC scope cl C env) v0); do holding [] (assign (.Name xc pv) (compEnvC scope cl C env) v1); pure ()) _ _ _
  refine wpAny_bind (wpAny_holding (wpAny_assign_Name (wpAny_storeName_local (lookup_relabel_local hxi) (hn.at' fun o e => up₃ _ o e) (fun h₄ hn₄ hs₄ => ?_) (by simp [compEnvC, relabel, hkind]))))
  refine wpAny_bind (wpAny_holding (wpAny_assign_Name (wpAny_storeName_local (lookup_relabel_local hxc) hn₄ (fun h₅ hn₅ hs₅ => wpAny_pure ?_) (by simp [compEnvC, relabel, hkind]))))
  refine hk h₅ _ _ hn₅ ⟨?_, ?_⟩ fun b o hb e => hs₅.extBut b o hb (hs₄.extBut b o hb (up₃ b o e))
  · simp [hne]
  · simp

variable {elt iter : Expr} {ifs : List Expr} {scope : Scope} {cl : List (Str × Addr)} {pos : Pos} {Q : Value → Shared → Prop} {news : List (Addr × Obj)}

theorem comp_list {x : Str} {px : Pos} {l : Addr} {vs : List Value} (p : Nat → Bool) (hh : A.handled = none) (hcell : ∀ y ∈ scope.names, y.2 ≠ .cell) (hkind : scope.kind = .function) (hx : scope.names.lookup x = some .local)
    (hls : s.heap.IsList l vs.toArray) (hlL : l ≠ L) (hsz : vs.length ≤ sizeLine) (F : Fr h₀ L s.heap m) (N : News h₀ L s.heap news)
    (J : Nat → List Value → List (Addr × Obj) → Prop) (h0 : J 0 [] news)
    (step : ∀ i v mC ys nx h tk own C oC D wr (E' : Value → Shared → Prop), vs[i]? = some v → mC x = some v → NsObj oC mC → J i ys nx → (∀ q ∈ nx, q.1 ∉ wr ∧ q.1 ≠ C ∧ q.1 ≠ D) → (∀ b ∈ wr, ∃ o, (b, o) ∈ own) →
      Fr h₀ L h m → News h₀ L h (own ++ (C, oC) :: (D, lst ys) :: nx) →
      wpAny (model prog w) A (forIn ifs true fun c r => if r = true then do let ok ← isTrue c (compEnvC scope cl C env) (eval c (compEnvC scope cl C env)); pure (ForInStep.yield ok) else pure (ForInStep.yield r))
        (CompT h₀ L m wr own C oC D ys nx (p i) { s with heap := h, toks := tk }) E' { s with heap := h, toks := tk } ∧
      (p i = false → J (i + 1) ys nx) ∧
      ∀ h tk, p i = true → Fr h₀ L h m → News h₀ L h (own ++ (C, oC) :: (D, lst ys) :: nx) → wpAny (model prog w) A (eval elt (compEnvC scope cl C env)) (CompQ h₀ L m wr own C oC D ys (J (i + 1)) s) E' { s with heap := h, toks := tk })
    (done : ∀ D h' tk ys nx, Fr h₀ L h' m → News h₀ L h' ((D, lst ys) :: nx) → (∀ q ∈ nx, q.1 ≠ D) → J vs.length ys nx → Q (.ref D) { s with heap := h', toks := tk }) :
    wpAny (model prog w) A (pyIter (.ref l)) (fun it s₂ => CompAt prog w A E env elt (.Name x px) iter ifs scope cl pos Q it s₂) E s := by
  have hLs : L < s.heap.objs.size := F.ns.lt
  obtain ⟨ol, hol, _⟩ := id hls
  have hne : l ≠ s.heap.objs.size := Nat.ne_of_lt (Heap.lt_size hol)
  have hszA : vs.toArray.size = vs.length := by simp
  have W0 := Walks.list (prog := prog) (w := w) hh s.heap.objs.size l hne vs.toArray
  have W := KTurns.ofWalks (target := .Name x px) W0 (fun i v s Q E _ hq => wpAny_pure hq)
  have hnews : ∀ q ∈ news, q.1 < s.heap.objs.size := fun q hq => Heap.lt_size (N q hq).1
  refine wpAny_pyIter_list hls ?_
  have up : ∀ b o, s.heap.get? b = some o → (s.heap.push { cls := .type "list_iterator", data := .fields #[.ref l, .int 0 0] }).get? b = some o := fun b o e => Heap.get?_push_of_some _ e
  have F' := F.push ({ cls := .type "list_iterator", data := .fields #[.ref l, .int 0 0] } : Obj)
  have N' : News h₀ L _ news := fun p hp => ⟨up _ _ (N p hp).1, (N p hp).2⟩
  have hsp : (s.heap.push { cls := .type "list_iterator", data := .fields #[.ref l, .int 0 0] }).objs.size = s.heap.objs.size + 1 := Heap.size_push ..
  refine comp_block (fun i mC => ∃ v, vs[i]? = some v ∧ mC x = some v) p W (fun s Q E st hq => W0.self 0 s Q E st hq) (by rw [hszA]; exact hsz) ?_ ?_ hcell hkind ?_ ?_ ?_ ?_ ⟨⟨_, Heap.get?_push_size _ rfl, rfl, rfl⟩, hls.at fun o e => up l o e⟩ F' N' J h0 ?_ ?_
  · rintro i h ⟨⟨o, ho, _⟩, _⟩ b hb
    rw [List.mem_singleton.mp hb]; exact ⟨o, ho⟩
  · intro b hb
    show b < (s.heap.push _).objs.size
    rw [hsp]
    rcases List.mem_cons.mp hb with rfl | hb
    · exact Nat.lt_succ_self _
    · rw [List.mem_singleton.mp hb]; exact Nat.lt_succ_of_lt (Heap.lt_size hol)
  · intro C i v s' mC Q' E' hP hn hk
    exact assign_comp_name hkind hx C v s' mC Q' E' hn fun h' tk mC' a b c => hk h' tk mC' a ⟨v, by simpa using hP, b⟩ c
  · intro hm
    rcases List.mem_cons.mp hm with e | hm
    · exact absurd (e ▸ hLs) (Nat.lt_irrefl _)
    · exact hlL (List.mem_singleton.mp hm).symm
  · intro b hb
    rw [List.mem_singleton.mp hb]; exact Heap.get?_none_of_le (Nat.le_trans F.above (Nat.le_of_lt hLs))
  · intro p hp hm
    have := hnews p hp
    exact absurd ((List.mem_singleton.mp hm) ▸ this) (Nat.lt_irrefl _)
  · rintro i mC ys nx h tk own C oC D E' hi ⟨v, hv, hmv⟩ hoC hJ hoff hown F₁ N₁
    exact step i v mC ys nx h tk own C oC D _ E' hv hmv hoC hJ hoff hown F₁ N₁
  · intro D h' tk ys nx F' N' hq hJ
    exact done D h' tk ys nx F' N' hq (by rwa [hszA] at hJ)

theorem comp_pairs {xi xc : Str} {pk pv pt : Pos} {x1 : Nat} {l : Addr} {vs : List Value} {Rl : Nat → Value → Value → Prop} (p : Nat → Bool) (hh : A.handled = none) (hcell : ∀ y ∈ scope.names, y.2 ≠ .cell) (hkind : scope.kind = .function)
    (hxi : scope.names.lookup xi = some .local) (hxc : scope.names.lookup xc = some .local) (hxne : xi ≠ xc)
    (hls : s.heap.IsList l vs.toArray) (hlL : l ≠ L) (hsz : vs.length ≤ sizeLine) (F : Fr h₀ L s.heap m) (N : News h₀ L s.heap news)
    (J : Nat → List Value → List (Addr × Obj) → Prop) (h0 : J 0 [] news)
    (hit : ∀ j v, vs[j]? = some v → ∃ T a b, v = .ref T ∧ T ≠ L ∧ s.heap.IsTuple T #[a, b] ∧ Rl j a b)
    (step : ∀ i v0 v1 mC ys nx h tk own C oC D wr (E' : Value → Shared → Prop), i < vs.length → Rl i v0 v1 → (mC xi = some v0 ∧ mC xc = some v1) → NsObj oC mC → J i ys nx → (∀ q ∈ nx, q.1 ∉ wr ∧ q.1 ≠ C ∧ q.1 ≠ D) → (∀ b ∈ wr, ∃ o, (b, o) ∈ own) →
      Fr h₀ L h m → News h₀ L h (own ++ (C, oC) :: (D, lst ys) :: nx) →
      wpAny (model prog w) A (forIn ifs true fun c r => if r = true then do let ok ← isTrue c (compEnvC scope cl C env) (eval c (compEnvC scope cl C env)); pure (ForInStep.yield ok) else pure (ForInStep.yield r))
        (CompT h₀ L m wr own C oC D ys nx (p i) { s with heap := h, toks := tk }) E' { s with heap := h, toks := tk } ∧
      (p i = false → J (i + 1) ys nx) ∧
      ∀ h tk, p i = true → Fr h₀ L h m → News h₀ L h (own ++ (C, oC) :: (D, lst ys) :: nx) → wpAny (model prog w) A (eval elt (compEnvC scope cl C env)) (CompQ h₀ L m wr own C oC D ys (J (i + 1)) s) E' { s with heap := h, toks := tk })
    (done : ∀ D h' tk ys nx, Fr h₀ L h' m → News h₀ L h' ((D, lst ys) :: nx) → (∀ q ∈ nx, q.1 ≠ D) → J vs.length ys nx → Q (.ref D) { s with heap := h', toks := tk }) :
    wpAny (model prog w) A (pyIter (.ref l)) (fun it s₂ => CompAt prog w A E env elt (.Tuple [.Name xi pk, .Name xc pv] x1 pt) iter ifs scope cl pos Q it s₂) E s := by
  have hLs : L < s.heap.objs.size := F.ns.lt
  obtain ⟨ol, hol, _⟩ := id hls
  have hne : l ≠ s.heap.objs.size := Nat.ne_of_lt (Heap.lt_size hol)
  have hszA : vs.toArray.size = vs.length := by simp
  have ex : ∀ j, ∃ T a b, j < vs.length → vs[j]? = some (.ref T) ∧ T ≠ L ∧ s.heap.IsTuple T #[a, b] ∧ Rl j a b := by
    intro j
    by_cases hj : j < vs.length
    · obtain ⟨T, a, b, e, h1, h2, h3⟩ := hit j vs[j] (List.getElem?_eq_getElem hj)
      exact ⟨T, a, b, fun _ => ⟨by rw [List.getElem?_eq_getElem hj, e], h1, h2, h3⟩⟩
    · exact ⟨0, .none, .none, fun h => absurd h hj⟩
  obtain ⟨Ts, hTs⟩ := Classical.axiomOfChoice ex
  obtain ⟨as, has⟩ := Classical.axiomOfChoice hTs
  obtain ⟨bs, hbs⟩ := Classical.axiomOfChoice has
  have W0 := WalksU.bound (WalksU.listOfTuples (prog := prog) (w := w) hh s.heap.objs.size l hne vs.toArray Ts (fun j => #[as j, bs j])
    (fun j hj => by simpa using (hbs j (by simpa using hj)).1) (fun j hj => by
      obtain ⟨o, ho, _⟩ := (hbs j (by simpa using hj)).2.2.1
      exact Nat.ne_of_lt (Heap.lt_size ho)))
  have W := KTurns.ofWalksU (elts := [.Name xi pk, .Name xc pv]) (k := x1) (pos := pt) W0
  have hnews : ∀ q ∈ news, q.1 < s.heap.objs.size := fun q hq => Heap.lt_size (N q hq).1
  refine wpAny_pyIter_list hls ?_
  have up : ∀ b o, s.heap.get? b = some o → (s.heap.push { cls := .type "list_iterator", data := .fields #[.ref l, .int 0 0] }).get? b = some o := fun b o e => Heap.get?_push_of_some _ e
  have F' := F.push ({ cls := .type "list_iterator", data := .fields #[.ref l, .int 0 0] } : Obj)
  have N' : News h₀ L _ news := fun p hp => ⟨up _ _ (N p hp).1, (N p hp).2⟩
  have hsp : (s.heap.push { cls := .type "list_iterator", data := .fields #[.ref l, .int 0 0] }).objs.size = s.heap.objs.size + 1 := Heap.size_push ..
  refine comp_block (fun i mC => i < vs.length ∧ mC xi = some (as i) ∧ mC xc = some (bs i)) p W (fun s Q E st hq => W0.self 0 s Q E st hq) (by rw [hszA]; exact hsz) ?_ ?_ hcell hkind ?_ ?_ ?_ ?_
    ⟨⟨_, Heap.get?_push_size _ rfl, rfl, rfl⟩, hls.at fun o e => up l o e, fun k hk => (hbs k (by simpa using hk)).2.2.1.at fun o e => up _ o e⟩ F' N' J h0 ?_ ?_
  · rintro i h ⟨⟨o, ho, _⟩, _⟩ b hb
    rw [List.mem_singleton.mp hb]; exact ⟨o, ho⟩
  · intro b hb
    show b < (s.heap.push _).objs.size
    rw [hsp]
    rcases List.mem_cons.mp hb with rfl | hb
    · exact Nat.lt_succ_self _
    · rcases List.mem_cons.mp hb with rfl | hb
      · exact Nat.lt_succ_of_lt (Heap.lt_size hol)
      · obtain ⟨k, hk, rfl⟩ := List.mem_map.mp hb
        obtain ⟨o, ho, _⟩ := (hbs k (by simpa using hk)).2.2.1
        exact Nat.lt_succ_of_lt (Heap.lt_size ho)
  · rintro C i v s' mC Q' E' ⟨T, vals, rfl, ⟨hi, rfl⟩, hT⟩ hn hk
    exact assign_comp_pair hh hkind hxi hxc hxne C T _ _ s' mC Q' E' hT hn fun h' tk mC' a b c => hk h' tk mC' a ⟨by simpa using hi, b⟩ c
  · intro hm
    rcases List.mem_cons.mp hm with e | hm
    · exact absurd (e ▸ hLs) (Nat.lt_irrefl _)
    · rcases List.mem_cons.mp hm with e | hm
      · exact hlL e.symm
      · obtain ⟨k, hk, e⟩ := List.mem_map.mp hm
        exact (hbs k (by simpa using hk)).2.1 e
  · intro b hb
    rw [List.mem_singleton.mp hb]; exact Heap.get?_none_of_le (Nat.le_trans F.above (Nat.le_of_lt hLs))
  · intro p hp hm
    have := hnews p hp
    exact absurd ((List.mem_singleton.mp hm) ▸ this) (Nat.lt_irrefl _)
  · rintro i mC ys nx h tk own C oC D E' hi ⟨hi', hm⟩ hoC hJ hoff hown F₁ N₁
    exact step i _ _ mC ys nx h tk own C oC D _ E' hi' (hbs i hi').2.2.2 hm hoC hJ hoff hown F₁ N₁
  · intro D h' tk ys nx F' N' hq hJ
    exact done D h' tk ys nx F' N' hq (by rwa [hszA] at hJ)

theorem comp_enum {xi xc : Str} {pk pv pt : Pos} {x1 : Nat} {l : Addr} {vs : List Value} (p : Nat → Bool) (hh : A.handled = none) (hcell : ∀ y ∈ scope.names, y.2 ≠ .cell) (hkind : scope.kind = .function)
    (hxi : scope.names.lookup xi = some .local) (hxc : scope.names.lookup xc = some .local) (hxne : xi ≠ xc)
    (hls : s.heap.IsList l vs.toArray) (hlL : l ≠ L) (hsz : vs.length ≤ sizeLine) (F : Fr h₀ L s.heap m) (N : News h₀ L s.heap news)
    (J : Nat → List Value → List (Addr × Obj) → Prop) (h0 : J 0 [] news)
    (step : ∀ i v t mC ys nx h tk own C oC D wr (E' : Value → Shared → Prop), vs[i]? = some v → (mC xi = some (.int (i : Nat) t) ∧ mC xc = some v) → NsObj oC mC → J i ys nx → (∀ q ∈ nx, q.1 ∉ wr ∧ q.1 ≠ C ∧ q.1 ≠ D) → (∀ b ∈ wr, ∃ o, (b, o) ∈ own) →
      Fr h₀ L h m → News h₀ L h (own ++ (C, oC) :: (D, lst ys) :: nx) →
      wpAny (model prog w) A (forIn ifs true fun c r => if r = true then do let ok ← isTrue c (compEnvC scope cl C env) (eval c (compEnvC scope cl C env)); pure (ForInStep.yield ok) else pure (ForInStep.yield r))
        (CompT h₀ L m wr own C oC D ys nx (p i) { s with heap := h, toks := tk }) E' { s with heap := h, toks := tk } ∧
      (p i = false → J (i + 1) ys nx) ∧
      ∀ h tk, p i = true → Fr h₀ L h m → News h₀ L h (own ++ (C, oC) :: (D, lst ys) :: nx) → wpAny (model prog w) A (eval elt (compEnvC scope cl C env)) (CompQ h₀ L m wr own C oC D ys (J (i + 1)) s) E' { s with heap := h, toks := tk })
    (done : ∀ D h' tk ys nx, Fr h₀ L h' m → News h₀ L h' ((D, lst ys) :: nx) → (∀ q ∈ nx, q.1 ≠ D) → J vs.length ys nx → Q (.ref D) { s with heap := h', toks := tk }) :
    wpAny (model prog w) A (call (.type "enumerate") [.ref l]) (fun xv s₁ => wpAny (model prog w) A (pyIter xv) (fun it s₂ => CompAt prog w A E env elt (.Tuple [.Name xi pk, .Name xc pv] x1 pt) iter ifs scope cl pos Q it s₂) E s₁) E s := by
  have hLs : L < s.heap.objs.size := F.ns.lt
  obtain ⟨ol, hol, _⟩ := id hls
  have hl2 := Heap.lt_size hol
  have hszA : vs.toArray.size = vs.length := by simp
  refine call_enumerate_list hls fun h' he hit hsize hk => ?_
  have F' := F.keeps hk
  have N' := N.keeps hk
  refine wpAny_pyIter_enum he ?_
  have W0 := (WalksT.enumerate (prog := prog) (w := w) hh (s.heap.objs.size + 1) s.heap.objs.size l (Nat.succ_ne_self _) (Nat.ne_of_lt (Nat.lt_succ_of_lt hl2)) (Nat.ne_of_lt hl2) vs.toArray).toU
  have W := KTurns.ofWalksU (elts := [.Name xi pk, .Name xc pv]) (k := x1) (pos := pt) W0
  have hnews : ∀ q ∈ news, q.1 < s.heap.objs.size := fun q hq => Heap.lt_size (N q hq).1
  refine comp_block (fun i mC => ∃ v t, vs[i]? = some v ∧ mC xi = some (.int (i : Nat) t) ∧ mC xc = some v) p W (fun s Q E st hq => W0.self 0 s Q E st hq) (by rw [hszA]; exact hsz) ?_ ?_ hcell hkind ?_ ?_ ?_ ?_
    ⟨⟨_, he⟩, hit, hls.at fun o e => hk l o e⟩ F' N' J h0 ?_ ?_
  · rintro i h ⟨⟨old, he⟩, ⟨o, ho, _⟩, _⟩ b hb
    rcases List.mem_cons.mp hb with rfl | hb
    · exact ⟨_, he⟩
    · rw [List.mem_singleton.mp hb]; exact ⟨o, ho⟩
  · intro b hb
    show b < h'.objs.size
    rw [hsize]
    rcases List.mem_cons.mp hb with rfl | hb
    · exact Nat.lt_succ_self _
    · rcases List.mem_cons.mp hb with rfl | hb
      · exact Nat.lt_succ_of_lt (Nat.lt_succ_self _)
      · rw [List.mem_singleton.mp hb]; exact Nat.lt_succ_of_lt (Nat.lt_succ_of_lt hl2)
  · rintro C i v s' mC Q' E' ⟨T, vals, rfl, ⟨t, x, hx, rfl⟩, hT⟩ hn hk
    exact assign_comp_pair hh hkind hxi hxc hxne C T _ _ s' mC Q' E' hT hn fun h' tk mC' a b c => hk h' tk mC' a ⟨x, t, by simpa using hx, b⟩ c
  · intro hm
    rcases List.mem_cons.mp hm with e | hm
    · exact absurd (e ▸ hLs) (Nat.not_lt.mpr (Nat.le_succ _))
    · rcases List.mem_cons.mp hm with e | hm
      · exact absurd (e ▸ hLs) (Nat.lt_irrefl _)
      · exact hlL (List.mem_singleton.mp hm).symm
  · intro b hb
    rcases List.mem_cons.mp hb with rfl | hb
    · exact Heap.get?_none_of_le (Nat.le_trans F.above (Nat.le_of_lt (Nat.lt_succ_of_lt hLs)))
    · rw [List.mem_singleton.mp hb]; exact Heap.get?_none_of_le (Nat.le_trans F.above (Nat.le_of_lt hLs))
  · intro p hp hm
    have := hnews p hp
    rcases List.mem_cons.mp hm with e | hm
    · exact absurd (e ▸ this) (Nat.not_lt.mpr (Nat.le_succ _))
    · exact absurd ((List.mem_singleton.mp hm) ▸ this) (Nat.lt_irrefl _)
  · rintro i mC ys nx h tk own C oC D E' hi ⟨v, t, hv, hm⟩ hoC hJ hoff hown F₁ N₁
    exact step i v t mC ys nx h tk own C oC D _ E' hv hm hoC hJ hoff hown F₁ N₁
  · intro D h' tk ys nx F' N' hq hJ
    exact done D h' tk ys nx F' N' hq (by rwa [hszA] at hJ)
end
end Mine
end TCom
section TCan
set_option autoImplicit false
namespace Mine

def viol (down : List Int) (k : Nat) : Bool := decide ((down.take k).sum > (k : Int) * ((k : Int) - 1) + ((down.drop k).map (fun d => min d (k : Int))).sum)

def canS (down : List Int) : Bool := !(decide (down.sum.fmod 2 = 1)) && (List.range down.length).all fun j => !viol down (j + 1)
def CanRes (ds : List Int) (b : Bool) : Prop := ∃ srt : List Int, srt.Perm ds ∧ srt.Pairwise (· ≤ ·) ∧ b = canS srt.reverse

theorem rng_small : ∀ n, n < 8 → Builtin.Range.small 1 (((n : Nat) : Int) + 1) 1 = true ∧ Builtin.Range.rangeSize 1 (((n : Nat) : Int) + 1) 1 = ((n : Nat) : Int) := by decide

theorem can_spec {prog : Program} {w : World} {dp un : Nat} {fr : Option (List Env)} {gd : Option (List Code)} {E : Value → Shared → Prop} {s : Shared} {Q : Value → Shared → Prop} {mean : ExcName → Option Value} {mg mb : Str → Option Value}
  (X0 : (hd.heap_39 w.params).In s.heap) (T0 : Top hd.view_39 LS mean mg mb s.heap) {dl : Addr} {vs : List Value} {ds : List Int}
  (hl : s.heap.IsList dl vs.toArray) (hi : IntsAre vs ds) (hnn : ∀ d ∈ ds, 0 ≤ d) (hsz : ds.length ≤ 7) (hdp : dp + 20 < recursionLimit) (hun : un + 150 < cLine)
  (h : ∀ b h' tk', s.heap.StaysIn h' → CanRes ds b → Q (.bool b) {s with heap := h', toks := tk'}) :
  wpAny (model prog w) (AA dp un fr gd) (call (.ref 58) [.ref dl]) Q E s := by
  refine' call_rawC (K := hd.heap_39 w.params) (binds := [("degrees", .ref dl)]) X0 T0.nolimit ?k6 ?k7 ?k8 ?k9 ?kB ?kD ?c2 ?c3 ?c4 ?_
  (case k6 => k_is)
  (case k7 => k_is)
  (case k8 => first | (simp only [depth_deeper]; omega) | omega)
  (case k9 => first | exact BindsTo.of_eq rfl | exact binds_K X0 rfl (by k_is) rfl rfl rfl | exact binds_KW X0 rfl (by k_is) rfl rfl rfl (by k_is) rfl)
  (case kB => exact rfl)
  (case kD => decide +kernel)
  (case c2 => exact rfl)
  (case c3 => exact rfl)
  (case c4 => exact rfl)
  intro h₁ tk₁ cells₁ F1 N1 Y1
  (try dsimp only)
  k_fold
  obtain ⟨o1, rfl, hk1⟩ := CellsAre.one Y1
  clear Y1
  replace F1 : Fr s.heap s.heap.objs.size h₁ (fun y => if y = (Str.ofString "degrees") then some (.ref dl) else none) := F1
  replace hk1 : o1.data = .cell none := hk1
  repeat' (first | (k_unfold; (try dsimp only)) | ((fail_if_success (with_reducible show wpAny _ _ (eval (Expr.Name (Str.ofString "k") _) (compEnvC _ _ _ _)) _ _ _)); (fail_if_success (with_reducible show wpAny _ _ (call (Value.builtin "list.append") _ _) _ _ _)); (fail_if_success (with_reducible show wpAny _ _ (subscriptTail _ (Expr.Slice _ _ _ _) (Value.ref _) (Value.ref _)) _ _ _)); (fail_if_success (with_reducible show wpAny _ _ (compareOp CmpOp.NotEq (Value.ref _) (Value.ref _)) _ _ _)); (fail_if_success (with_reducible show wpAny _ _ (compareOp CmpOp.Eq (Value.ref _) (Value.ref _)) _ _ _)); (fail_if_success (with_reducible show wpAny _ _ (compareOp CmpOp.Lt (Value.ref _) (Value.ref _)) _ _ _)); (fail_if_success (with_reducible show wpAny _ _ (call (Value.type "enumerate") _ _) _ _ _)); (fail_if_success (with_reducible show wpAny _ _ (exec (Stmt.While _ _ _ _) _) _ _ _)); (fail_if_success (with_reducible show wpAny _ _ (exec (Stmt.For _ _ _ _ _) _) _ _ _)); (fail_if_success (with_reducible show wpAny _ _ (call (Value.ref _) _ _) _ _ _)); (fail_if_success (with_reducible show wpAny _ _ (eval (Expr.ListComp _ _ _ _) _) _ _ _)); walk1; (try dsimp only)))
  rename Fr _ _ _ _ => F2
  rename News _ _ _ _ => N2
  rename_i D2 ws srt cD2 _ hws hwl hperm hsrt _ _ hD2
  refine slice_rev_tmp F2 N2 (news_list N2 (.head _)) (IsPart.int _ _) ?_ (by with_unfolding_all rfl) (by have := hws.length; simp [sizeLine_eq]; omega)
  intro D3 h3 F3 N3 hD3
  have hrev := IntsAre.reverse hws
  repeat' (first | (k_unfold; (try dsimp only)) | ((fail_if_success (with_reducible show wpAny _ _ (eval (Expr.Name (Str.ofString "k") _) (compEnvC _ _ _ _)) _ _ _)); (fail_if_success (with_reducible show wpAny _ _ (call (Value.builtin "list.append") _ _) _ _ _)); (fail_if_success (with_reducible show wpAny _ _ (subscriptTail _ (Expr.Slice _ _ _ _) (Value.ref _) (Value.ref _)) _ _ _)); (fail_if_success (with_reducible show wpAny _ _ (compareOp CmpOp.NotEq (Value.ref _) (Value.ref _)) _ _ _)); (fail_if_success (with_reducible show wpAny _ _ (compareOp CmpOp.Eq (Value.ref _) (Value.ref _)) _ _ _)); (fail_if_success (with_reducible show wpAny _ _ (compareOp CmpOp.Lt (Value.ref _) (Value.ref _)) _ _ _)); (fail_if_success (with_reducible show wpAny _ _ (call (Value.type "enumerate") _ _) _ _ _)); (fail_if_success (with_reducible show wpAny _ _ (exec (Stmt.While _ _ _ _) _) _ _ _)); (fail_if_success (with_reducible show wpAny _ _ (exec (Stmt.For _ _ _ _ _) _) _ _ _)); (fail_if_success (with_reducible show wpAny _ _ (call (Value.ref _) _ _) _ _ _)); (fail_if_success (with_reducible show wpAny _ _ (eval (Expr.ListComp _ _ _ _) _) _ _ _)); walk1; (try dsimp only)))
  · rename Fr _ _ _ _ => F4
    refine h _ _ _ F4.keep ⟨srt, hperm, hsrt, ?_⟩
    have hodd : srt.reverse.sum.fmod 2 = 1 := by assumption
    simp only [canS, hodd, decide_true, Bool.not_true, Bool.false_and]
  · rename Fr _ _ _ _ => F4
    rename News _ _ _ _ => N4
    refine For_turns F4 ?_
    repeat' (first | (k_unfold; (try dsimp only)) | ((fail_if_success (with_reducible show wpAny _ _ (eval (Expr.Name (Str.ofString "k") _) (compEnvC _ _ _ _)) _ _ _)); (fail_if_success (with_reducible show wpAny _ _ (call (Value.builtin "list.append") _ _) _ _ _)); (fail_if_success (with_reducible show wpAny _ _ (subscriptTail _ (Expr.Slice _ _ _ _) (Value.ref _) (Value.ref _)) _ _ _)); (fail_if_success (with_reducible show wpAny _ _ (compareOp CmpOp.NotEq (Value.ref _) (Value.ref _)) _ _ _)); (fail_if_success (with_reducible show wpAny _ _ (compareOp CmpOp.Eq (Value.ref _) (Value.ref _)) _ _ _)); (fail_if_success (with_reducible show wpAny _ _ (compareOp CmpOp.Lt (Value.ref _) (Value.ref _)) _ _ _)); (fail_if_success (with_reducible show wpAny _ _ (call (Value.type "enumerate") _ _) _ _ _)); (fail_if_success (with_reducible show wpAny _ _ (exec (Stmt.While _ _ _ _) _) _ _ _)); (fail_if_success (with_reducible show wpAny _ _ (exec (Stmt.For _ _ _ _ _) _) _ _ _)); (fail_if_success (with_reducible show wpAny _ _ (call (Value.ref _) _ _) _ _ _)); (fail_if_success (with_reducible show wpAny _ _ (eval (Expr.ListComp _ _ _ _) _) _ _ _)); walk1; (try dsimp only)))
    rename Fr _ _ _ _ => F5
    rename News _ _ _ _ => N5
    rename IsRange _ _ _ _ _ _ _ _ => hrg
    have hrn := hws.length
    refine for_range rfl hrg (rng_small _ (by omega)).1 (n := ds.length) (rng_small _ (by omega)).2 F5 (N5.perm (news' := [(s.heap.objs.size + 1, o1), (D3, listOf ws.reverse.toArray 0)]) (by intro p hp; simp at hp ⊢; rcases hp with rfl | rfl <;> simp))
      (fun i m nx => ∃ ok ov, nx = [(s.heap.objs.size + 1, ok), (D3, listOf ws.reverse.toArray 0)] ∧ ok.data = .cell ov ∧
        m = (fun y => if y = (Str.ofString "down") then some (.ref D3) else if y = (Str.ofString "many") then some (.int (ds.length : Nat) (tk₁ + 1 + 1 + 1)) else if y = (Str.ofString "degrees") then some (.ref dl) else none) ∧ ∀ j, j < i → viol (srt.reverse) (j + 1) = false) ?_ [s.heap.objs.size + 1] ?_ ?_ ?_
    · exact ⟨_, _, rfl, hk1, rfl, fun j hj => absurd hj (Nat.not_lt_zero _)⟩
    · intro a ha; rw [List.mem_singleton.mp ha]; exact ⟨_, .head _⟩
    · rintro i t m₁ nx h6 tk6 own wr hi6 ⟨ok, ov, rfl, hok, rfl, hviol⟩ hnw hown hoff F6 N6
      replace F6 : Fr s.heap s.heap.objs.size h6 _ := F6
      replace N6 : News s.heap s.heap.objs.size h6 _ := N6
      have hDc : D3 ≠ s.heap.objs.size + 1 := Nat.ne_of_gt (hD3 (s.heap.objs.size + 1, o1) (by simp))
      refine wpAny_assign_Name (storeX_C (news := (s.heap.objs.size + 1, ok) :: (D3, listOf ws.reverse.toArray 0) :: own) F6 (N6.perm (by intro p hp; simp at hp ⊢; rcases hp with rfl | rfl | hp <;> simp [*])) (c := s.heap.objs.size + 1) (by rfl) (UpdF.head ?_) hok ?_ (by rfl) (by rfl))
      · intro p hp
        rcases List.mem_cons.mp hp with rfl | hp
        · exact hDc
        · exact hoff p hp _ (.head _)
      intro h7 ok7 F7 N7 hok7
      k_fold
      have ek : (1 + (i : Int)) = ((i + 1 : Nat) : Int) := by omega
      rw [ek] at hok7
      repeat' (first | (k_unfold; (try dsimp only)) | ((fail_if_success (with_reducible show wpAny _ _ (eval (Expr.Name (Str.ofString "k") _) (compEnvC _ _ _ _)) _ _ _)); (fail_if_success (with_reducible show wpAny _ _ (call (Value.builtin "list.append") _ _) _ _ _)); (fail_if_success (with_reducible show wpAny _ _ (subscriptTail _ (Expr.Slice _ _ _ _) (Value.ref _) (Value.ref _)) _ _ _)); (fail_if_success (with_reducible show wpAny _ _ (compareOp CmpOp.NotEq (Value.ref _) (Value.ref _)) _ _ _)); (fail_if_success (with_reducible show wpAny _ _ (compareOp CmpOp.Eq (Value.ref _) (Value.ref _)) _ _ _)); (fail_if_success (with_reducible show wpAny _ _ (compareOp CmpOp.Lt (Value.ref _) (Value.ref _)) _ _ _)); (fail_if_success (with_reducible show wpAny _ _ (call (Value.type "enumerate") _ _) _ _ _)); (fail_if_success (with_reducible show wpAny _ _ (exec (Stmt.While _ _ _ _) _) _ _ _)); (fail_if_success (with_reducible show wpAny _ _ (exec (Stmt.For _ _ _ _ _) _) _ _ _)); (fail_if_success (with_reducible show wpAny _ _ (call (Value.ref _) _ _) _ _ _)); (fail_if_success (with_reducible show wpAny _ _ (eval (Expr.ListComp _ _ _ _) _) _ _ _)); walk1; (try dsimp only)))
      have hwt : ws.reverse.length = ds.length := by rw [List.length_reverse, hrn, hwl]
      refine slice_lit F7 N7 (news_list N7 (.tail _ (.head _))) (by kmk_part) (by kmk_part) ?_ (by with_unfolding_all rfl) (by kmk_pure) (by simp [sizeLine_eq]; omega)
      rw [pick_upto]
      intro D8 h8 F8 N8 hD8
      have hw8 := hrev.take (i + 1)
      repeat' (first | (k_unfold; (try dsimp only)) | ((fail_if_success (with_reducible show wpAny _ _ (eval (Expr.Name (Str.ofString "k") _) (compEnvC _ _ _ _)) _ _ _)); (fail_if_success (with_reducible show wpAny _ _ (call (Value.builtin "list.append") _ _) _ _ _)); (fail_if_success (with_reducible show wpAny _ _ (subscriptTail _ (Expr.Slice _ _ _ _) (Value.ref _) (Value.ref _)) _ _ _)); (fail_if_success (with_reducible show wpAny _ _ (compareOp CmpOp.NotEq (Value.ref _) (Value.ref _)) _ _ _)); (fail_if_success (with_reducible show wpAny _ _ (compareOp CmpOp.Eq (Value.ref _) (Value.ref _)) _ _ _)); (fail_if_success (with_reducible show wpAny _ _ (compareOp CmpOp.Lt (Value.ref _) (Value.ref _)) _ _ _)); (fail_if_success (with_reducible show wpAny _ _ (call (Value.type "enumerate") _ _) _ _ _)); (fail_if_success (with_reducible show wpAny _ _ (exec (Stmt.While _ _ _ _) _) _ _ _)); (fail_if_success (with_reducible show wpAny _ _ (exec (Stmt.For _ _ _ _ _) _) _ _ _)); (fail_if_success (with_reducible show wpAny _ _ (call (Value.ref _) _ _) _ _ _)); (fail_if_success (with_reducible show wpAny _ _ (eval (Expr.ListComp _ _ _ _) _) _ _ _)); walk1; (try dsimp only)))
      rename Fr _ _ _ _ => F9
      rename News _ _ _ _ => N9
      have hDc9 := hD8
      refine my_comp (cl := [((Str.ofString "k"), s.heap.objs.size + 1)]) (by with_unfolding_all rfl) (by rfl) (by decide) ?_
      repeat' (first | (k_unfold; (try dsimp only)) | ((fail_if_success (with_reducible show wpAny _ _ (eval (Expr.Name (Str.ofString "k") _) (compEnvC _ _ _ _)) _ _ _)); (fail_if_success (with_reducible show wpAny _ _ (call (Value.builtin "list.append") _ _) _ _ _)); (fail_if_success (with_reducible show wpAny _ _ (subscriptTail _ (Expr.Slice _ _ _ _) (Value.ref _) (Value.ref _)) _ _ _)); (fail_if_success (with_reducible show wpAny _ _ (compareOp CmpOp.NotEq (Value.ref _) (Value.ref _)) _ _ _)); (fail_if_success (with_reducible show wpAny _ _ (compareOp CmpOp.Eq (Value.ref _) (Value.ref _)) _ _ _)); (fail_if_success (with_reducible show wpAny _ _ (compareOp CmpOp.Lt (Value.ref _) (Value.ref _)) _ _ _)); (fail_if_success (with_reducible show wpAny _ _ (call (Value.type "enumerate") _ _) _ _ _)); (fail_if_success (with_reducible show wpAny _ _ (exec (Stmt.While _ _ _ _) _) _ _ _)); (fail_if_success (with_reducible show wpAny _ _ (exec (Stmt.For _ _ _ _ _) _) _ _ _)); (fail_if_success (with_reducible show wpAny _ _ (call (Value.ref _) _ _) _ _ _)); (fail_if_success (with_reducible show wpAny _ _ (eval (Expr.ListComp _ _ _ _) _) _ _ _)); walk1; (try dsimp only)))
      refine slice_lit F9 N9 (news_list N9 (.tail _ (.tail _ (.head _)))) (by kmk_part) (by kmk_part) ?_ (by with_unfolding_all rfl) (by kmk_pure) (by simp [sizeLine_eq]; omega)
      rw [pick_from]
      intro D10 h10 F10 N10 hD10
      have hw10 := hrev.drop (i + 1)
      have hwl10 := hw10.length
      generalize hNN : ((D8, listOf (List.take (i + 1) ws.reverse).toArray 0) :: (s.heap.objs.size + 1, ok7) :: (D3, listOf ws.reverse.toArray 0) :: own) = NN at N10
      have hcm : (s.heap.objs.size + 1, ok7) ∈ NN := by subst hNN; simp
      refine comp_list (fun _ => true) rfl (by decide) (by rfl) (by rfl) (news_list N10 (.head _)) (N10 _ (.head _)).2.1 (by simp [sizeLine_eq]; omega) F10 N10
        (fun j ys nx => nx = (D10, listOf (List.drop (i + 1) ws.reverse).toArray 0) :: NN ∧ IntsAre ys (((srt.reverse.drop (i + 1)).take j).map fun d => min d ((i + 1 : Nat) : Int))) ⟨rfl, .nil⟩ ?_ ?_
      · rintro j v mC ys nx h11 tk11 own' C oC D wr' E' hv hmv hoC ⟨rfl, hys⟩ hoff' hown' F11 N11
        obtain ⟨dd, td, rfl, hdd⟩ := hw10.at j v hv
        refine ⟨wpAny_tests_nil (CompT.intro F11 N11), (fun q => by cases q), ?_⟩
        intro h12 tk12 _ F12 N12
        clear F11 N11
        k_fold
        repeat' (first | (k_unfold; (try dsimp only)) | ((fail_if_success (with_reducible show wpAny _ _ (eval (Expr.Name (Str.ofString "k") _) (compEnvC _ _ _ _)) _ _ _)); (fail_if_success (with_reducible show wpAny _ _ (call (Value.builtin "list.append") _ _) _ _ _)); (fail_if_success (with_reducible show wpAny _ _ (subscriptTail _ (Expr.Slice _ _ _ _) (Value.ref _) (Value.ref _)) _ _ _)); (fail_if_success (with_reducible show wpAny _ _ (compareOp CmpOp.NotEq (Value.ref _) (Value.ref _)) _ _ _)); (fail_if_success (with_reducible show wpAny _ _ (compareOp CmpOp.Eq (Value.ref _) (Value.ref _)) _ _ _)); (fail_if_success (with_reducible show wpAny _ _ (compareOp CmpOp.Lt (Value.ref _) (Value.ref _)) _ _ _)); (fail_if_success (with_reducible show wpAny _ _ (call (Value.type "enumerate") _ _) _ _ _)); (fail_if_success (with_reducible show wpAny _ _ (exec (Stmt.While _ _ _ _) _) _ _ _)); (fail_if_success (with_reducible show wpAny _ _ (exec (Stmt.For _ _ _ _ _) _) _ _ _)); (fail_if_success (with_reducible show wpAny _ _ (call (Value.ref _) _ _) _ _ _)); (fail_if_success (with_reducible show wpAny _ _ (eval (Expr.ListComp _ _ _ _) _) _ _ _)); walk1; (try dsimp only)))
        refine kcf_cell N12 (by rfl) (List.mem_append_right _ (.tail _ (.tail _ (.tail _ hcm)))) hok7 ?_ (by rfl) (by rfl) (by decide)
        repeat' (first | (k_unfold; (try dsimp only)) | ((fail_if_success (with_reducible show wpAny _ _ (eval (Expr.Name (Str.ofString "k") _) (compEnvC _ _ _ _)) _ _ _)); (fail_if_success (with_reducible show wpAny _ _ (call (Value.builtin "list.append") _ _) _ _ _)); (fail_if_success (with_reducible show wpAny _ _ (subscriptTail _ (Expr.Slice _ _ _ _) (Value.ref _) (Value.ref _)) _ _ _)); (fail_if_success (with_reducible show wpAny _ _ (compareOp CmpOp.NotEq (Value.ref _) (Value.ref _)) _ _ _)); (fail_if_success (with_reducible show wpAny _ _ (compareOp CmpOp.Eq (Value.ref _) (Value.ref _)) _ _ _)); (fail_if_success (with_reducible show wpAny _ _ (compareOp CmpOp.Lt (Value.ref _) (Value.ref _)) _ _ _)); (fail_if_success (with_reducible show wpAny _ _ (call (Value.type "enumerate") _ _) _ _ _)); (fail_if_success (with_reducible show wpAny _ _ (exec (Stmt.While _ _ _ _) _) _ _ _)); (fail_if_success (with_reducible show wpAny _ _ (exec (Stmt.For _ _ _ _ _) _) _ _ _)); (fail_if_success (with_reducible show wpAny _ _ (call (Value.ref _) _ _) _ _ _)); (fail_if_success (with_reducible show wpAny _ _ (eval (Expr.ListComp _ _ _ _) _) _ _ _)); walk1; (try dsimp only)))
        rename Fr _ _ _ _ => F13
        rename News _ _ _ _ => N13
        refine CompQ.intro F13 N13 hoff' ⟨rfl, ?_⟩
        have e1 : (srt.reverse.drop (i + 1)).take (j + 1) = (srt.reverse.drop (i + 1)).take j ++ [dd] := by simp [List.take_add_one, hdd]
        rw [e1, List.map_append]
        refine hys.append ?_
        have e2 : (if ((i + 1 : Nat) : Int) < dd then ((i + 1 : Nat) : Int) else dd) = min dd ((i + 1 : Nat) : Int) := by
          split <;> omega
        rw [e2]
        exact .cons _ _ .nil
      · intro D14 h14 tk14 ys nx F14 N14 hq14 hJ14
        obtain ⟨rfl, hys⟩ := hJ14
        rw [hwl10, List.take_length] at hys
        repeat' (first | (k_unfold; (try dsimp only)) | ((fail_if_success (with_reducible show wpAny _ _ (eval (Expr.Name (Str.ofString "k") _) (compEnvC _ _ _ _)) _ _ _)); (fail_if_success (with_reducible show wpAny _ _ (call (Value.builtin "list.append") _ _) _ _ _)); (fail_if_success (with_reducible show wpAny _ _ (subscriptTail _ (Expr.Slice _ _ _ _) (Value.ref _) (Value.ref _)) _ _ _)); (fail_if_success (with_reducible show wpAny _ _ (compareOp CmpOp.NotEq (Value.ref _) (Value.ref _)) _ _ _)); (fail_if_success (with_reducible show wpAny _ _ (compareOp CmpOp.Eq (Value.ref _) (Value.ref _)) _ _ _)); (fail_if_success (with_reducible show wpAny _ _ (compareOp CmpOp.Lt (Value.ref _) (Value.ref _)) _ _ _)); (fail_if_success (with_reducible show wpAny _ _ (call (Value.type "enumerate") _ _) _ _ _)); (fail_if_success (with_reducible show wpAny _ _ (exec (Stmt.While _ _ _ _) _) _ _ _)); (fail_if_success (with_reducible show wpAny _ _ (exec (Stmt.For _ _ _ _ _) _) _ _ _)); (fail_if_success (with_reducible show wpAny _ _ (call (Value.ref _) _ _) _ _ _)); (fail_if_success (with_reducible show wpAny _ _ (eval (Expr.ListComp _ _ _ _) _) _ _ _)); walk1; (try dsimp only)))
        · rename Fr _ _ _ _ => F15
          have hv : viol srt.reverse (i + 1) = true := by
            simp only [viol, decide_eq_true_eq, gt_iff_lt]
            assumption
          refine h _ _ _ F15.keep ⟨srt, hperm, hsrt, ?_⟩
          have hrl : srt.reverse.length = ds.length := by rw [List.length_reverse]; exact hperm.length_eq
          have : (List.range srt.reverse.length).all (fun j => !viol srt.reverse (j + 1)) = false := by
            rw [List.all_eq_false]
            exact ⟨i, List.mem_range.mpr (by omega), by simp [hv]⟩
          simp [canS] at this ⊢
          simp [this]
        · rename Fr _ _ _ _ => F15
          rename News _ _ _ _ => N15
          have hv : viol srt.reverse (i + 1) = false := by
            simp only [viol, decide_eq_false_iff_not, gt_iff_lt]
            assumption
          subst hNN
          refine TurnQ.intro F15 (nx := [(s.heap.objs.size + 1, ok7), (D3, listOf ws.reverse.toArray 0)]) ?_ ?_ ⟨ok7, _, rfl, hok7, rfl, ?_⟩
          · exact N15.perm (by intro p hp; simp at hp ⊢; rcases hp with hp | rfl | rfl <;> simp [*])
          · intro q hq
            simp at hq
            rcases hq with rfl | rfl
            · exact hnw (s.heap.objs.size + 1, ok) (by simp)
            · exact hnw _ (by simp)
          · intro j hj
            rcases Nat.lt_or_ge j i with h1 | h1
            · exact hviol j h1
            · have : j = i := by omega
              subst this; exact hv
    · rintro h16 tk16 m16 nx16 F16 N16 ⟨ok, ov, rfl, hok, rfl, hviol⟩
      repeat' (first | (k_unfold; (try dsimp only)) | ((fail_if_success (with_reducible show wpAny _ _ (eval (Expr.Name (Str.ofString "k") _) (compEnvC _ _ _ _)) _ _ _)); (fail_if_success (with_reducible show wpAny _ _ (call (Value.builtin "list.append") _ _) _ _ _)); (fail_if_success (with_reducible show wpAny _ _ (subscriptTail _ (Expr.Slice _ _ _ _) (Value.ref _) (Value.ref _)) _ _ _)); (fail_if_success (with_reducible show wpAny _ _ (compareOp CmpOp.NotEq (Value.ref _) (Value.ref _)) _ _ _)); (fail_if_success (with_reducible show wpAny _ _ (compareOp CmpOp.Eq (Value.ref _) (Value.ref _)) _ _ _)); (fail_if_success (with_reducible show wpAny _ _ (compareOp CmpOp.Lt (Value.ref _) (Value.ref _)) _ _ _)); (fail_if_success (with_reducible show wpAny _ _ (call (Value.type "enumerate") _ _) _ _ _)); (fail_if_success (with_reducible show wpAny _ _ (exec (Stmt.While _ _ _ _) _) _ _ _)); (fail_if_success (with_reducible show wpAny _ _ (exec (Stmt.For _ _ _ _ _) _) _ _ _)); (fail_if_success (with_reducible show wpAny _ _ (call (Value.ref _) _ _) _ _ _)); (fail_if_success (with_reducible show wpAny _ _ (eval (Expr.ListComp _ _ _ _) _) _ _ _)); walk1; (try dsimp only)))
      refine h _ _ _ F16.keep ⟨srt, hperm, hsrt, ?_⟩
      have hev : ¬ srt.reverse.sum.fmod 2 = 1 := by assumption
      have hrl : srt.reverse.length = ds.length := by rw [List.length_reverse]; exact hperm.length_eq
      symm
      simp only [canS, hev, decide_false, Bool.not_false, Bool.true_and, List.all_eq_true, List.mem_range, Bool.not_eq_true']
      intro j hj
      exact hviol j (by omega)

end Mine
end TCan
section TDct
set_option autoImplicit false
namespace Mine

/-! a key part: a number or a text -/
inductive MK where
  | n (i : Int)
  | x (s : Str)
  deriving DecidableEq

def MK.is : MK → Value → Bool
  | .n i, v => Value.isInt i v
  | .x s, v => Value.isStrOf s v
theorem MK.n_of {i : Int} {v : Value} (h : MK.is (.n i) v = true) : ∃ t, v = .int i t := Value.isInt_shape h
theorem MK.x_of {s : Str} {v : Value} (h : MK.is (.x s) v = true) : ∃ t, v = .str s t := Value.isStrOf_shape h
def MK.hash (w : World) : MK → Int
  | .n i => hashInt i
  | .x s => hashStr w s

def mix (prog : Program) (w : World) : KeyKind prog w MK where
  is := MK.is
  hash := MK.hash w
  inj := fun v a b ha hb => by
    cases a with
    | n i =>
      obtain ⟨t, rfl⟩ := MK.n_of ha
      cases b with
      | n j => obtain ⟨u, e⟩ := MK.n_of hb; injection e with e; rw [e]
      | x s => obtain ⟨u, e⟩ := MK.x_of hb; cases e
    | x s =>
      obtain ⟨t, rfl⟩ := MK.x_of ha
      cases b with
      | n j => obtain ⟨u, e⟩ := MK.n_of hb; cases e
      | x s' => obtain ⟨u, e⟩ := MK.x_of hb; injection e with e; rw [e]
  byValue := fun k v h => by
    cases k with
    | n i => obtain ⟨t, rfl⟩ := MK.n_of h; rfl
    | x s => obtain ⟨t, rfl⟩ := MK.x_of h; rfl
  pyHash := fun {A E s k v Q} hv h => by
    cases k with
    | n i => obtain ⟨t, rfl⟩ := MK.n_of hv; exact wpAny_pyHash_int h
    | x s => obtain ⟨t, rfl⟩ := MK.x_of hv; exact wpAny_pyHash_str h
  eqBool := fun {A E s a b u v Q} hu hv h => by
    cases a with
    | n i =>
      obtain ⟨t, rfl⟩ := MK.n_of hu
      cases b with
      | n j =>
        obtain ⟨u, rfl⟩ := MK.n_of hv
        refine wpAny_eqBool_int ?_
        rw [show (i == j) = decide (MK.n i = MK.n j) from (by by_cases q : i = j <;> simp [q])]
        exact h
      | x s => obtain ⟨u, rfl⟩ := MK.x_of hv; exact SeqAt.EqAt.int_str _ _ _ _ prog w _ _ (by simpa using h)
    | x s =>
      obtain ⟨t, rfl⟩ := MK.x_of hu
      cases b with
      | n j => obtain ⟨u, rfl⟩ := MK.n_of hv; exact SeqAt.EqAt.str_int _ _ _ _ prog w _ _ (by simpa using h)
      | x s' => obtain ⟨u, rfl⟩ := MK.x_of hv; exact wpAny_eqBool_str (by simpa using h)
  «strs» := fun k x t v h => by
    cases k with
    | n i => obtain ⟨u, e⟩ := MK.n_of h; cases e
    | x s =>
      obtain ⟨u, e⟩ := MK.x_of h
      injection e with e
      subst e
      cases v <;> rfl

/-! a dict by its entries -/
def RawD (h : Heap) (d : Addr) (es : Array DictEntry) (ep : Nat) : Prop := ∃ o, h.get? d = some o ∧ o.ExactDict ∧ o.data = .dict es ep
theorem RawD.typeIs {s : Shared} {d es ep} (x : RawD s.heap d es ep) : s.TypeIs (.ref d) "dict" := let ⟨o, ho, hc, _⟩ := x; ⟨o, ho, hc.1⟩
theorem RawD.noDict {h : Heap} {d es ep} (x : RawD h d es ep) : ∀ b, Value.ref d = .ref b → ∃ ob, h.get? b = some ob ∧ ob.dict = none :=
  fun b e => by injection e with e; subst e; exact let ⟨o, ho, hc, _⟩ := x; ⟨o, ho, hc.2.1⟩
theorem RawD.at {h h' : Heap} {d es ep} (x : RawD h d es ep) (e : ∀ o, h.get? d = some o → h'.get? d = some o) : RawD h' d es ep := let ⟨o, ho, r⟩ := x; ⟨o, e o ho, r⟩

section
variable {prog : Program} {w : World} {A : Around} {E : Value → Shared → Prop} {s : Shared}

theorem meets_items (d : Addr) (es : Array DictEntry) (ep : Nat) (hd : (d == sysModules) = false) :
    MeetsIn prog w (Builtin.«dict.items» ⟨[.ref d], []⟩) (fun _ R s => RawD s.heap d es ep ∧
      R (.ok (.ret (.ref s.heap.objs.size))) { s with heap := s.heap.push { cls := .type "dict_items", data := .fields #[.ref d] } }) :=
  .of_wp fun A R s ⟨hm, h⟩ => by
    unfold Builtin.«dict.items»
    refine wpAny_bind ?_
    unfold Builtin.Dict.noArgs
    refine wpAny_bind (wpAny_notOrdered_dict hm.typeIs ?_)
    show wpAny _ _ (pure d) _ _ s
    refine wpAny_pure ?_
    show wpAny _ _ (Builtin.Dict.showsAll d >>= _) _ _ s
    unfold Builtin.Dict.showsAll
    rw [if_neg (by rw [hd]; exact Bool.false_ne_true)]
    refine wpAny_bind (wpAny_pure ?_)
    exact wpAny_bind (wpAny_newObj_type (wpAny_pure ⟨_, rfl, h⟩))

theorem meets_values (d : Addr) (es : Array DictEntry) (ep : Nat) (hd : (d == sysModules) = false) :
    MeetsIn prog w (Builtin.«dict.values» ⟨[.ref d], []⟩) (fun _ R s => RawD s.heap d es ep ∧
      R (.ok (.ret (.ref s.heap.objs.size))) { s with heap := s.heap.push { cls := .type "dict_values", data := .fields #[.ref d] } }) :=
  .of_wp fun A R s ⟨hm, h⟩ => by
    refine wpAny_bind ?_
    unfold Builtin.Dict.noArgs
    refine wpAny_bind (wpAny_notOrdered_dict hm.typeIs ?_)
    show wpAny _ _ (pure d) _ _ s
    refine wpAny_pure ?_
    show wpAny _ _ (Builtin.Dict.showsAll d >>= _) _ _ s
    unfold Builtin.Dict.showsAll
    rw [if_neg (by rw [hd]; exact Bool.false_ne_true)]
    refine wpAny_bind (wpAny_pure ?_)
    exact wpAny_bind (wpAny_newObj_type (wpAny_pure ⟨_, rfl, h⟩))

theorem iter_items {v d : Addr} {es : Array DictEntry} {ep : Nat} {Q : Value → Shared → Prop} (hv : s.heap.IsItemsView v d) (hm : RawD s.heap d es ep)
    (hQ : Q (.ref s.heap.objs.size) { s with heap := s.heap.push { cls := .type "dict_itemiterator", data := .fields #[.none, .bool false, .ref d, .int 0 0, .int es.size 0, .int ep 0, .none, .none] } }) :
    wpAny (model prog w) A (pyIter (.ref v)) Q E s := by
  obtain ⟨ov, hov, hcv, hdv⟩ := id hv
  obtain ⟨o, ho, hc, hdat⟩ := id hm
  refine wpAny_pyIter_slot hv.typeIs PySem.F.slot_dict_items_iter (wpAny_call_entry PySem.F.slot_dict_items_iter hv.typeIs PySem.F.entry_dict_items_iter ?_ (PySem.F.args_dict_items_iter_1 _))
  unfold Builtin.«dict_items.__iter__»
  refine wpAny_bind (wpAny_pure ?_)
  refine wpAny_bind ?_
  unfold Builtin.Dict_items.dictOf
  refine wpAny_bind (wpAny_field hov hdv (x := .ref d) rfl (wpAny_pure ?_))
  refine wpAny_bind ?_
  unfold Builtin.Dict_items.newIterator
  refine wpAny_bind (wpAny_dictEntries ho hdat ?_)
  refine wpAny_bind (wpAny_dictEpoch ho hdat ?_)
  have hown : Builtin.Dict_items.ownsTuple "dict_itemiterator" = true := by decide
  simp only [hown, if_true]
  refine wpAny_newObj_type (wpAny_pure ⟨_, rfl, "dict_itemiterator", _, ⟨_, Heap.get?_push_size _ rfl, rfl⟩, PySem.F.slot_dict_itemiterator_next.lookup, ?_⟩)
    (by simp only [sizeOk, Builtin.Dict_items.ownedTupleFields, List.size_toArray, List.length_append, List.length_cons, List.length_nil, sizeLine_eq]; omega)
  simpa [rawInt, Builtin.Dict_items.ownedTupleFields] using hQ

theorem iter_values {v d : Addr} {es : Array DictEntry} {ep : Nat} {Q : Value → Shared → Prop} (hv : s.heap.IsValuesView v d) (hm : RawD s.heap d es ep)
    (hQ : Q (.ref s.heap.objs.size) { s with heap := s.heap.push { cls := .type "dict_valueiterator", data := .fields #[.ref d, .int 0 0, .int es.size 0, .int ep 0] } }) :
    wpAny (model prog w) A (pyIter (.ref v)) Q E s := by
  obtain ⟨ov, hov, hcv, hdv⟩ := id hv
  obtain ⟨o, ho, hc, hdat⟩ := id hm
  refine wpAny_pyIter_slot hv.typeIs PySem.F.slot_dict_values_iter (wpAny_call_entry PySem.F.slot_dict_values_iter hv.typeIs PySem.F.entry_dict_values_iter ?_ (PySem.F.args_dict_values_iter_1 _))
  unfold Builtin.«dict_values.__iter__»
  refine wpAny_bind (wpAny_pure ?_)
  refine wpAny_bind ?_
  unfold Builtin.Dict_items.dictOf
  refine wpAny_bind (wpAny_field hov hdv (x := .ref d) rfl (wpAny_pure ?_))
  refine wpAny_bind ?_
  unfold Builtin.Dict_items.newIterator
  refine wpAny_bind (wpAny_dictEntries ho hdat ?_)
  refine wpAny_bind (wpAny_dictEpoch ho hdat ?_)
  have hown : Builtin.Dict_items.ownsTuple "dict_valueiterator" = false := by decide
  simp only [hown, Bool.false_eq_true, if_false]
  refine wpAny_newObj_type (wpAny_pure ⟨_, rfl, "dict_valueiterator", _, ⟨_, Heap.get?_push_size _ rfl, rfl⟩, PySem.F.slot_dict_valueiterator_next.lookup, ?_⟩)
  simpa [rawInt] using hQ

theorem next_item {it d : Addr} {i ep : Nat} {es : Array DictEntry} {en : DictEntry} {ok ov : Value} {Q : Option Value → Shared → Prop} (hit : IsItemIter s.heap it d i es.size ep ok ov)
    (hm : RawD s.heap d es ep) (hx : es[i]? = some en)
    (hQ : ∀ h', IsItemIterOut h' it d (i + 1) es.size ep en.key en.val s.heap.objs.size →
      h'.get? s.heap.objs.size = some { cls := .type "tuple", data := .seq #[en.key, en.val] } → h'.objs.size = s.heap.objs.size + 1 →
      (∀ b o, b ≠ it → s.heap.get? b = some o → h'.get? b = some o) → Q (some (.ref s.heap.objs.size)) { s with heap := h' }) :
    wpAny (model prog w) A (pyNext (.ref it)) Q E s := by
  obtain ⟨hp, g, dr, tk, os⟩ := s
  obtain ⟨od, hod, hcd, hdd⟩ := id hm
  have hT : Shared.TypeIs ⟨hp, g, dr, tk, os⟩ (.ref it) "dict_itemiterator" := ⟨_, hit, rfl⟩
  unfold pyNext
  refine wpAny_bind (wpAny_attempt (wpAny_callSpecial?_slot (name := Str.ofString "__next__") hT PySem.F.slot_dict_itemiterator_next
    (wpAny_call_entry PySem.F.slot_dict_itemiterator_next hT PySem.F.entry_dict_itemiterator_next ?_ (PySem.F.args_dict_itemiterator_next_1 _))))
  refine wpAny_bind (wpAny_pure ?_)
  refine wpAny_bind ?_
  refine wpAny_bind ?_
  first | refine wpAny_bind (wpAny_typeNameOfWhole_itemiter hT (wpAny_pure ?_)) | refine wpAny_bind (wpAny_typeNameOf_itemiter hT (wpAny_pure ?_))
  refine wpAny_bind (wpAny_fieldsOf hit rfl ?_)
  have hown : Builtin.Dict_items.ownsTuple "dict_itemiterator" = true := by decide
  simp only [hown, if_true]
  show wpAny _ _ (if (Value.ref d == Value.none) = true then _ else _) _ _ _
  rw [if_neg (show ¬ ((Value.ref d == Value.none) = true) from Bool.false_ne_true)]
  refine wpAny_bind (wpAny_pure ?_)
  refine wpAny_bind (wpAny_dictEntries hod hdd ?_)
  rw [if_neg (by simp)]
  refine wpAny_bind (wpAny_pure ?_)
  refine wpAny_bind (wpAny_dictEpoch hod hdd ?_)
  rw [if_neg (by simp)]
  refine wpAny_pure ?_
  have hlt' : i < es.size := by
    rcases Nat.lt_or_ge i es.size with h | h
    · exact h
    · simp [Array.getElem?_eq_none h] at hx
  have hxe : es[i] = en := by rw [Array.getElem?_eq_getElem hlt'] at hx; exact Option.some.inj hx
  subst hxe
  simp only [show ¬ ((i : Int) < 0) from by omega, if_false, Int.toNat_natCast, Array.getElem?_eq_getElem hlt']
  refine wpAny_bind ?_
  first | refine wpAny_bind (wpAny_typeNameOfWhole_itemiter hT (wpAny_pure ?_)) | refine wpAny_bind (wpAny_typeNameOf_itemiter hT (wpAny_pure ?_))
  refine wpAny_bind (wpAny_isOneOf_itemiter hT ?_)
  show wpAny _ _ (setField (.ref it) 3 (rawInt ((i : Int) + 1)) >>= _) _ _ ⟨hp, g, dr, tk, os⟩
  refine wpAny_bind (wpAny_setField_rec hit (by simp) fun h₁ he₁ hs₁ => ?_)
  replace hs₁ : Heap.SameBut it hp h₁ := hs₁
  replace he₁ : IsItemIter h₁ it d (i + 1) es.size ep ok ov := by
    have e : ((i + 1 : Nat) : Int) = (i : Int) + 1 := by omega
    unfold IsItemIter; rw [e]; simpa [rawInt] using he₁
  have hT₁ : Shared.TypeIs ⟨h₁, g, dr, tk, os⟩ (.ref it) "dict_itemiterator" := ⟨_, he₁, rfl⟩
  refine wpAny_bind (wpAny_holding ?_)
  refine wpAny_bind (wpAny_isOneOf_itemiter hT₁ ?_)
  refine wpAny_bind (wpAny_isOneOf_itemiter hT₁ ?_)
  show wpAny _ _ (Builtin.Dict_items.pairFromOwner (.ref it) 6 es[i].key es[i].val) _ _ ⟨h₁, g, dr, tk, os⟩
  unfold Builtin.Dict_items.pairFromOwner
  refine wpAny_bind (wpAny_newTuple ?_)
  have he₂ : IsItemIter (h₁.push { cls := .type "tuple", data := .seq #[es[i].key, es[i].val] }) it d (i + 1) es.size ep ok ov := Heap.get?_push_of_some _ he₁
  generalize hh₂ : h₁.push { cls := .type "tuple", data := .seq #[es[i].key, es[i].val] } = h₂ at he₂
  have hz₁ : h₁.objs.size = hp.objs.size := hs₁.1
  have hil : it < hp.objs.size := Heap.lt_size hit
  have ht₂ : h₂.get? hp.objs.size = some { cls := .type "tuple", data := .seq #[es[i].key, es[i].val] } := by rw [← hh₂, ← hz₁]; exact Heap.get?_push_size _ rfl
  have hz₂ : h₂.objs.size = hp.objs.size + 1 := by rw [← hh₂, Heap.size_push, hz₁]
  have hk₂ : ∀ b o, b ≠ it → hp.get? b = some o → h₂.get? b = some o := fun b o hb e => by rw [← hh₂]; exact Heap.get?_push_of_some _ (hs₁.extBut b o hb e)
  show wpAny _ _ (Builtin.Dict_items.ownedTupleIsFree (.ref it) >>= _) _ _ ⟨h₂, g, dr, tk, os⟩
  rw [hz₁]
  clear hh₂ he₁ hs₁ hT₁ hz₁ h₁
  refine wpAny_bind ?_
  unfold Builtin.Dict_items.ownedTupleIsFree
  refine wpAny_bind (wpAny_field he₂ rfl (x := .none) rfl (wpAny_pure ?_))
  simp only [if_true]
  refine wpAny_bind (wpAny_field he₂ rfl (x := ok) rfl ?_)
  refine wpAny_bind (wpAny_field he₂ rfl (x := ov) rfl ?_)
  refine wpAny_bind (wpAny_setField_rec he₂ (by simp) fun h₃ he₃ hs₃ => ?_)
  replace hs₃ : Heap.SameBut it h₂ h₃ := hs₃
  replace he₃ : IsItemIter h₃ it d (i + 1) es.size ep es[i].key ov := he₃
  refine wpAny_bind (wpAny_setField_rec he₃ (by simp) fun h₄ he₄ hs₄ => ?_)
  replace hs₄ : Heap.SameBut it h₃ h₄ := hs₄
  replace he₄ : IsItemIter h₄ it d (i + 1) es.size ep es[i].key es[i].val := he₄
  refine wpAny_bind (wpAny_setField_rec he₄ (by simp) fun h₅ he₅ hs₅ => ?_)
  replace hs₅ : Heap.SameBut it h₄ h₅ := hs₅
  replace he₅ : IsItemIterOut h₅ it d (i + 1) es.size ep es[i].key es[i].val hp.objs.size := he₅
  refine wpAny_bind (wpAny_setField_rec he₅ (by simp) fun h₆ he₆ hs₆ => ?_)
  replace hs₆ : Heap.SameBut it h₅ h₆ := hs₆
  replace he₆ : IsItemIterOut h₆ it d (i + 1) es.size ep es[i].key es[i].val hp.objs.size := he₆
  refine wpAny_bind (wpAny_letGo (wpAny_pure (wpAny_pure ⟨_, rfl, wpAny_pure (hQ h₆ he₆ ?_ ?_ ?_)⟩)))
  · exact hs₆.extBut _ _ (Nat.ne_of_gt hil) (hs₅.extBut _ _ (Nat.ne_of_gt hil) (hs₄.extBut _ _ (Nat.ne_of_gt hil) (hs₃.extBut _ _ (Nat.ne_of_gt hil) ht₂)))
  · show h₆.objs.size = hp.objs.size + 1
    rw [hs₆.1, hs₅.1, hs₄.1, hs₃.1, hz₂]
  · exact fun b o hb e => hs₆.extBut b o hb (hs₅.extBut b o hb (hs₄.extBut b o hb (hs₃.extBut b o hb (hk₂ b o hb e))))

theorem next_item_end {it d : Addr} {i ep : Nat} {es : Array DictEntry} {ok ov : Value} {Q : Option Value → Shared → Prop} (hh : A.handled = none) (hit : IsItemIter s.heap it d i es.size ep ok ov)
    (hm : RawD s.heap d es ep) (hge : es.size ≤ i)
    (hQ : ∀ h', Heap.ExtBut it s.heap h' → Q none { s with heap := h' }) : wpAny (model prog w) A (pyNext (.ref it)) Q E s := by
  obtain ⟨od, hod, hcd, hdd⟩ := id hm
  have hT : s.TypeIs (.ref it) "dict_itemiterator" := ⟨_, hit, rfl⟩
  unfold pyNext
  refine wpAny_bind (wpAny_attempt (wpAny_callSpecial?_slot (name := Str.ofString "__next__") hT PySem.F.slot_dict_itemiterator_next
    (wpAny_call_entry PySem.F.slot_dict_itemiterator_next hT PySem.F.entry_dict_itemiterator_next ?_ (PySem.F.args_dict_itemiterator_next_1 _))))
  refine wpAny_bind (wpAny_pure ?_)
  refine wpAny_bind ?_
  refine wpAny_bind ?_
  first | refine wpAny_bind (wpAny_typeNameOfWhole_itemiter hT (wpAny_pure ?_)) | refine wpAny_bind (wpAny_typeNameOf_itemiter hT (wpAny_pure ?_))
  refine wpAny_bind (wpAny_fieldsOf hit rfl ?_)
  have hown : Builtin.Dict_items.ownsTuple "dict_itemiterator" = true := by decide
  simp only [hown, if_true]
  show wpAny _ _ (if (Value.ref d == Value.none) = true then _ else _) _ _ s
  rw [if_neg (show ¬ ((Value.ref d == Value.none) = true) from Bool.false_ne_true)]
  refine wpAny_bind (wpAny_pure ?_)
  refine wpAny_bind (wpAny_dictEntries hod hdd ?_)
  rw [if_neg (by simp)]
  refine wpAny_bind (wpAny_pure ?_)
  refine wpAny_bind (wpAny_dictEpoch hod hdd ?_)
  rw [if_neg (by simp)]
  refine wpAny_pure ?_
  simp only [show ¬ ((i : Int) < 0) from by omega, if_false, Int.toNat_natCast, Array.getElem?_eq_none hge]
  refine wpAny_bind ?_
  first | refine wpAny_bind (wpAny_typeNameOfWhole_itemiter hT (wpAny_pure ?_)) | refine wpAny_bind (wpAny_typeNameOf_itemiter hT (wpAny_pure ?_))
  show wpAny _ _ (setField (.ref it) 2 .none >>= _) _ _ s
  refine wpAny_bind (wpAny_setField hit rfl (by simp) ?_)
  show wpAny _ _ (newExc (.type "StopIteration") [] >>= _) _ _ _
  refine wpAny_bind ?_
  simp only [newExc, newTuple]
  refine wpAny_bind (wpAny_newObj_type ?_ (by size_fits))
  refine wpAny_bind (m := firstArgMember _ _) (wpAny_of_eq (a := Value.none) (by first | rfl | (simp only [firstArgMember]; rfl)) ?_)
  refine wpAny_newObj_type ?_ (by size_fits)
  simp only [raiseNew]
  refine wpAny_bind (wpAny_handled ?_)
  rw [show A.in1.handled = none from hh]
  refine wpAny_bind (wpAny_pure (wpAny_throw ?_))
  refine wpAny_bind (wpAny_isInstance (T := "StopIteration") (b := true) ⟨_, Heap.get?_push_size _ rfl, rfl⟩ isSubtype_stop ?_)
  exact wpAny_pure (hQ _ (((Heap.SameBut.update ..).extBut.push _).push _))

theorem next_value {it d : Addr} {i ep : Nat} {es : Array DictEntry} {en : DictEntry} {Q : Option Value → Shared → Prop} (hit : s.heap.IsValIter it d i es.size ep)
    (hm : RawD s.heap d es ep) (hx : es[i]? = some en)
    (hQ : ∀ h', h'.IsValIter it d (i + 1) es.size ep → Heap.SameBut it s.heap h' → Q (some en.val) { s with heap := h' }) :
    wpAny (model prog w) A (pyNext (.ref it)) Q E s := by
  obtain ⟨o, ho, hc, hd⟩ := id hit
  obtain ⟨od, hod, hcd, hdd⟩ := id hm
  unfold pyNext
  refine wpAny_bind (wpAny_attempt (wpAny_callSpecial?_slot (name := Str.ofString "__next__") hit.typeIs PySem.F.slot_dict_valueiterator_next
    (wpAny_call_entry PySem.F.slot_dict_valueiterator_next hit.typeIs PySem.F.entry_dict_valueiterator_next ?_ (PySem.F.args_dict_valueiterator_next_1 _))))
  refine wpAny_bind (wpAny_pure ?_)
  refine wpAny_bind ?_
  refine wpAny_bind ?_
  first | refine wpAny_bind (wpAny_typeNameOfWhole_valiter hit.typeIs (wpAny_pure ?_)) | refine wpAny_bind (wpAny_typeNameOf_valiter hit.typeIs (wpAny_pure ?_))
  refine wpAny_bind (wpAny_fieldsOf ho hd ?_)
  have hown : Builtin.Dict_items.ownsTuple "dict_valueiterator" = false := by decide
  simp only [hown, Bool.false_eq_true, if_false]
  show wpAny _ _ (if (Value.ref d == Value.none) = true then _ else _) _ _ s
  rw [if_neg (show ¬ ((Value.ref d == Value.none) = true) from Bool.false_ne_true)]
  refine wpAny_bind (wpAny_pure ?_)
  refine wpAny_bind (wpAny_dictEntries hod hdd ?_)
  rw [if_neg (by simp)]
  refine wpAny_bind (wpAny_pure ?_)
  refine wpAny_bind (wpAny_dictEpoch hod hdd ?_)
  rw [if_neg (by simp)]
  refine wpAny_pure ?_
  have hlt' : i < es.size := by
    rcases Nat.lt_or_ge i es.size with h | h
    · exact h
    · simp [Array.getElem?_eq_none h] at hx
  have hxe : es[i] = en := by rw [Array.getElem?_eq_getElem hlt'] at hx; exact Option.some.inj hx
  subst hxe
  simp only [show ¬ ((i : Int) < 0) from by omega, if_false, Int.toNat_natCast, Array.getElem?_eq_getElem hlt']
  refine wpAny_bind ?_
  first | refine wpAny_bind (wpAny_typeNameOfWhole_valiter hit.typeIs (wpAny_pure ?_)) | refine wpAny_bind (wpAny_typeNameOf_valiter hit.typeIs (wpAny_pure ?_))
  refine wpAny_bind (wpAny_isOneOf_valiter hit.typeIs ?_)
  show wpAny _ _ (setField (.ref it) 1 (rawInt ((i : Int) + 1)) >>= _) _ _ s
  refine wpAny_bind (wpAny_setField ho hd (by simp) ?_)
  have hit' : (s.heap.update it (Obj.mapFields (·.setIfInBounds 1 (rawInt ((i : Int) + 1))))).IsValIter it d (i + 1) es.size ep :=
    ⟨_, Heap.get?_update_self _ ho (Obj.isFreed_of_fields (Obj.data_mapFields hd _)), (Obj.cls_mapFields ..).trans hc, by rw [Obj.data_mapFields hd]; simp [rawInt]⟩
  refine wpAny_bind (wpAny_holding ?_)
  refine wpAny_bind (wpAny_isOneOf_valiter (s := { s with heap := s.heap.update it (Obj.mapFields (·.setIfInBounds 1 (rawInt ((i : Int) + 1)))) }) hit'.typeIs ?_)
  refine wpAny_bind (wpAny_isOneOf_valiter (s := { s with heap := s.heap.update it (Obj.mapFields (·.setIfInBounds 1 (rawInt ((i : Int) + 1)))) }) hit'.typeIs ?_)
  show wpAny _ _ (pure es[i].val) _ _ _
  exact wpAny_pure (wpAny_pure ⟨_, rfl, wpAny_pure (hQ _ hit' (Heap.SameBut.update ..))⟩)

theorem next_value_end {it d : Addr} {i ep : Nat} {es : Array DictEntry} {Q : Option Value → Shared → Prop} (hh : A.handled = none) (hit : s.heap.IsValIter it d i es.size ep)
    (hm : RawD s.heap d es ep) (hge : es.size ≤ i)
    (hQ : ∀ h', Heap.ExtBut it s.heap h' → Q none { s with heap := h' }) : wpAny (model prog w) A (pyNext (.ref it)) Q E s := by
  obtain ⟨o, ho, hc, hd⟩ := id hit
  obtain ⟨od, hod, hcd, hdd⟩ := id hm
  unfold pyNext
  refine wpAny_bind (wpAny_attempt (wpAny_callSpecial?_slot (name := Str.ofString "__next__") hit.typeIs PySem.F.slot_dict_valueiterator_next
    (wpAny_call_entry PySem.F.slot_dict_valueiterator_next hit.typeIs PySem.F.entry_dict_valueiterator_next ?_ (PySem.F.args_dict_valueiterator_next_1 _))))
  refine wpAny_bind (wpAny_pure ?_)
  refine wpAny_bind ?_
  refine wpAny_bind ?_
  first | refine wpAny_bind (wpAny_typeNameOfWhole_valiter hit.typeIs (wpAny_pure ?_)) | refine wpAny_bind (wpAny_typeNameOf_valiter hit.typeIs (wpAny_pure ?_))
  refine wpAny_bind (wpAny_fieldsOf ho hd ?_)
  have hown : Builtin.Dict_items.ownsTuple "dict_valueiterator" = false := by decide
  simp only [hown, Bool.false_eq_true, if_false]
  show wpAny _ _ (if (Value.ref d == Value.none) = true then _ else _) _ _ s
  rw [if_neg (show ¬ ((Value.ref d == Value.none) = true) from Bool.false_ne_true)]
  refine wpAny_bind (wpAny_pure ?_)
  refine wpAny_bind (wpAny_dictEntries hod hdd ?_)
  rw [if_neg (by simp)]
  refine wpAny_bind (wpAny_pure ?_)
  refine wpAny_bind (wpAny_dictEpoch hod hdd ?_)
  rw [if_neg (by simp)]
  refine wpAny_pure ?_
  simp only [show ¬ ((i : Int) < 0) from by omega, if_false, Int.toNat_natCast, Array.getElem?_eq_none hge]
  refine wpAny_bind ?_
  first | refine wpAny_bind (wpAny_typeNameOfWhole_valiter hit.typeIs (wpAny_pure ?_)) | refine wpAny_bind (wpAny_typeNameOf_valiter hit.typeIs (wpAny_pure ?_))
  show wpAny _ _ (setField (.ref it) 0 .none >>= _) _ _ s
  refine wpAny_bind (wpAny_setField ho hd (by simp) ?_)
  show wpAny _ _ (newExc (.type "StopIteration") [] >>= _) _ _ _
  refine wpAny_bind ?_
  simp only [newExc, newTuple]
  refine wpAny_bind (wpAny_newObj_type ?_ (by size_fits))
  refine wpAny_bind (m := firstArgMember _ _) (wpAny_of_eq (a := Value.none) (by first | rfl | (simp only [firstArgMember]; rfl)) ?_)
  refine wpAny_newObj_type ?_ (by size_fits)
  simp only [raiseNew]
  refine wpAny_bind (wpAny_handled ?_)
  rw [show A.in1.handled = none from hh]
  refine wpAny_bind (wpAny_pure (wpAny_throw ?_))
  refine wpAny_bind (wpAny_isInstance (T := "StopIteration") (b := true) ⟨_, Heap.get?_push_size _ rfl, rfl⟩ isSubtype_stop ?_)
  exact wpAny_pure (hQ _ (((Heap.SameBut.update ..).extBut.push _).push _))

theorem itemsTurns {elts : List Expr} {kk : Nat} {pos : Pos} (hh : A.handled = none) (I d : Addr) (hne : d ≠ I) (es : Array DictEntry) (ep : Nat) :
    KTurns prog w A (.Tuple elts kk pos) I [I, d] [I] es.size
      (fun i v h => ∃ T en, v = .ref T ∧ es[i]? = some en ∧ h.IsTuple T #[en.key, en.val])
      (fun i v h => ∃ T en ok ov, v = .ref T ∧ es[i]? = some en ∧ h.IsTuple T #[en.key, en.val] ∧ IsItemIterOut h I d (i + 1) es.size ep ok ov T ∧ RawD h d es ep ∧ T ≠ I)
      (fun i h => (∃ ok ov, IsItemIter h I d i es.size ep ok ov) ∧ RawD h d es ep) where
  sub := fun b hb => by simp at hb; simp [hb]
  frame := fun i h h' st hk => by
    obtain ⟨⟨ok, ov, he⟩, hm⟩ := st
    exact ⟨⟨ok, ov, hk I (by simp) _ he⟩, hm.at fun o e => hk d (by simp) o e⟩
  item := fun i s Q E hi st hQ => by
    obtain ⟨⟨ok, ov, he⟩, hm⟩ := st
    obtain ⟨en, hx⟩ : ∃ p, es[i]? = some p := ⟨es[i], by simp [hi]⟩
    refine next_item he hm hx fun h' ho hT hsz hk => ?_
    exact hQ (.ref s.heap.objs.size) h' s.toks ⟨s.heap.objs.size, en, en.key, en.val, rfl, hx, ⟨_, hT, rfl, _, rfl⟩, ho, hm.at (fun o e => hk d o hne e), Nat.ne_of_gt (Heap.lt_size he)⟩ fun b o hb e => hk b o (fun h => hb (by simp [h])) e
  go := fun i v s Q E hm hQ => by
    obtain ⟨T, en, ok, ov, rfl, hx, hT, ho, hd, hTI⟩ := hm
    refine wpAny_letOwnedTupleGo_items ho fun h' he hs => ?_
    exact hQ h' ⟨T, en, rfl, hx, hT.at fun o e => hs.extBut T o hTI e⟩ ⟨⟨ok, ov, he⟩, hd.at fun o e => hs.extBut d o hne e⟩ fun b o hb e => hs.extBut b o (fun h => hb (by simp [h])) e
  done := fun s Q E st hQ => by
    obtain ⟨⟨ok, ov, he⟩, hm⟩ := st
    exact next_item_end hh he hm (Nat.le_refl _) fun h' hx => hQ h' s.toks fun b o hb e => hx b o (fun h => hb (by simp [h])) e

theorem valuesWalks (hh : A.handled = none) (I d : Addr) (hne : d ≠ I) (es : Array DictEntry) (ep : Nat) :
    Walks prog w A I [I, d] [I] es.size (fun i v => ∃ en, es[i]? = some en ∧ v = en.val) (fun i h => h.IsValIter I d i es.size ep ∧ RawD h d es ep) where
  sub := fun b hb => by simp at hb; simp [hb]
  frame := fun _ _ _ st hk => ⟨st.1.at fun o e => hk I (by simp) o e, st.2.at fun o e => hk d (by simp) o e⟩
  item := fun i s Q E hi st hQ => by
    obtain ⟨en, hx⟩ : ∃ p, es[i]? = some p := ⟨es[i], by simp [hi]⟩
    refine next_value st.1 st.2 hx fun h' hit' hs' => ?_
    exact hQ en.val h' s.toks ⟨en, hx, rfl⟩ ⟨hit', st.2.at fun o e => hs'.extBut d o hne e⟩ fun b o hb e => hs'.extBut b o (fun h => hb (by simp [h])) e
  done := fun s Q E st hQ => next_value_end hh st.1 st.2 (Nat.le_refl _) fun h' he' => hQ h' s.toks fun b o hb e => he' b o (fun h => hb (by simp [h])) e
  self := fun _ _ _ _ st hQ => wpAny_pyIter_valiter st.1 hQ

theorem getMethod_items {d : Addr} {es : Array DictEntry} {ep : Nat} {pl : Sem Bool} {Q : Value × List Value → Shared → Prop} (hm : RawD s.heap d es ep) (h : Q (.builtin "dict.items", [.ref d]) s) :
    wpAny (model prog w) A (getMethod (.ref d) "items" pl) Q E s := getMethod_builtin hm.typeIs PySem.F.plainAttrs_dict PySem.F.slot_dict_items PySem.F.type_dict_items hm.noDict h
theorem getMethod_values {d : Addr} {es : Array DictEntry} {ep : Nat} {pl : Sem Bool} {Q : Value × List Value → Shared → Prop} (hm : RawD s.heap d es ep) (h : Q (.builtin "dict.values", [.ref d]) s) :
    wpAny (model prog w) A (getMethod (.ref d) "values" pl) Q E s := getMethod_builtin hm.typeIs PySem.F.plainAttrs_dict PySem.F.slot_dict_values PySem.F.type_dict_values hm.noDict h
end

section
variable {prog : Program} {w : World} {A : Around} {E : Value → Shared → Prop} {s : Shared} {h₀ : Heap} {env : Env} {body : List Stmt} {Q : Flow → Shared → Prop} {m : Str → Option Value} {news : List (Addr × Obj)}

/-- for xi, xc in d.items(), d a dict of the base -/
theorem for_items {xi xc : Str} {pk pv pt : Pos} {x1 : Nat} {d : Addr} {es : Array DictEntry} {ep : Nat} (hh : A.handled = none)
    (hxi : env.kindOf xi = some .local) (hxc : env.kindOf xc = some .local)
    (hp : (env.scope.kind == .class || (env.scope.kind == .module && env.locals != env.globals)) = false)
    (ld : (d == sysModules) = false) (hd₀ : RawD h₀ d es ep) (F : Fr h₀ env.locals s.heap m) (N : News h₀ env.locals s.heap news)
    (J : Nat → (Str → Option Value) → List (Addr × Obj) → Prop) (h0 : J 0 m news)
    (mu : List Addr) (hmut : ∀ a ∈ mu, ∃ o, (a, o) ∈ news)
    (step : ∀ i en m₁ nx h tk own wr, es[i]? = some en → J i m₁ nx → (∀ q ∈ nx, q.1 ∉ wr) → (∀ b ∈ wr, ∃ o, (b, o) ∈ own) → (∀ p ∈ own, ∀ a ∈ mu, p.1 ≠ a) →
      Fr h₀ env.locals h (fun y => if y = xc then some en.val else if y = xi then some en.key else m₁ y) → News h₀ env.locals h (own ++ nx) →
      wpAny (model prog w) A (execs body env) (TurnQ h₀ env.locals wr own (J (i + 1)) s Q) E { s with heap := h, toks := tk })
    (done : ∀ h' tk m' nx, Fr h₀ env.locals h' m' → News h₀ env.locals h' nx → J es.size m' nx → Q .next { s with heap := h', toks := tk }) :
    wpAny (model prog w) A (call (.builtin "dict.items") [.ref d]) (fun xv s₁ => wpAny (model prog w) A (pyIter xv) (fun it s₂ => TurnsAt prog w A h₀ env (.Tuple [.Name xi pk, .Name xc pv] x1 pt) body Q E it s₂) E s₁) E s := by
  have hds : RawD s.heap d es ep := hd₀.at fun o e => F.keep d o e
  obtain ⟨od, hod, _⟩ := id hd₀
  have hlt : d < h₀.objs.size := Heap.lt_size hod
  have hLs : env.locals < s.heap.objs.size := F.ns.lt
  have hab : h₀.objs.size ≤ env.locals := F.above
  refine call_meetsIn PySem.F.slot_dict_items hds.typeIs PySem.F.entry_dict_items (PySem.F.args_dict_items_1 _) (meets_items d es ep ld) ⟨hds, ?_⟩
  have F' := F.push ({ cls := .type "dict_items", data := .fields #[.ref d] } : Obj)
  have N' : News h₀ env.locals _ news := fun p hp => ⟨Heap.get?_push_of_some ({ cls := .type "dict_items", data := .fields #[.ref d] } : Obj) (N p hp).1, (N p hp).2⟩
  have hsp : (s.heap.push { cls := .type "dict_items", data := .fields #[.ref d] }).objs.size = s.heap.objs.size + 1 := Heap.size_push ..
  have hds' : RawD (s.heap.push { cls := .type "dict_items", data := .fields #[.ref d] }) d es ep := hds.at fun o e => Heap.get?_push_of_some _ e
  have hv' : (s.heap.push { cls := .type "dict_items", data := .fields #[.ref d] }).IsItemsView s.heap.objs.size d := ⟨_, Heap.get?_push_size _ rfl, rfl, rfl⟩
  show wpAny _ _ (pyIter _) _ _ _
  generalize s.heap.push { cls := .type "dict_items", data := .fields #[.ref d] } = hv at F' N' hsp hds' hv' ⊢
  refine iter_items (s := { s with heap := hv }) hv' hds' ?_
  have hd2 : d < hv.objs.size := by rw [hsp]; exact Nat.lt_succ_of_lt (Nat.lt_trans (Nat.lt_of_lt_of_le hlt hab) hLs)
  have hL2 : env.locals < hv.objs.size := by rw [hsp]; exact Nat.lt_succ_of_lt hLs
  have W := itemsTurns (prog := prog) (w := w) (elts := [.Name xi pk, .Name xc pv]) (kk := x1) (pos := pt) hh hv.objs.size d (Nat.ne_of_lt hd2) es ep
  have hnews : ∀ q ∈ news, q.1 < hv.objs.size := fun q hq => Heap.lt_size (N' q hq).1
  refine my_for W ?_ ?_ ?_ ?_ ⟨⟨.none, .none, Heap.get?_push_size _ rfl⟩, hds'.at fun o e => Heap.get?_push_of_some _ e⟩ (F'.push _) (fun p hp => ⟨Heap.get?_push_of_some _ (N' p hp).1, (N' p hp).2⟩) J h0 mu ?_ ?_ ?_
  · rintro i h ⟨⟨ok, ov, he⟩, _⟩ b hb
    rw [List.mem_singleton.mp hb]; exact ⟨_, he⟩
  · intro hm
    rcases List.mem_cons.mp hm with e | hm
    · exact absurd hL2 (e ▸ Nat.lt_irrefl _)
    · exact absurd (Nat.lt_of_lt_of_le hlt hab) ((List.mem_singleton.mp hm) ▸ Nat.lt_irrefl _)
  · intro b hb
    rw [List.mem_singleton.mp hb]; exact Heap.get?_none_of_le (Nat.le_trans hab (Nat.le_of_lt hL2))
  · intro p hp hm
    have := hnews p hp
    exact absurd ((List.mem_singleton.mp hm) ▸ this) (Nat.lt_irrefl _)
  · intro a ha hm
    obtain ⟨o, ho⟩ := hmut a ha
    have := hnews _ ho
    rcases List.mem_cons.mp hm with e | hm
    · subst e; exact absurd this (Nat.lt_irrefl _)
    · have e := List.mem_singleton.mp hm
      subst e
      have := (N _ ho).2.2
      rw [hod] at this; cases this
  · rintro i v m₁ nx h tk own hi ⟨T, en, rfl, hx, hT⟩ hJ hnw hown hoff F₁ N₁
    refine assign_pair hh hxi hxc hp F₁ N₁ hT fun h₂ tk₂ F₂ N₂ => ?_
    exact step i en m₁ nx h₂ tk₂ own _ hx hJ hnw hown hoff F₂ N₂
  · intro h' tk m' nx F' N' hJ
    exact done h' tk m' nx F' N' hJ

/-- for x in d.values(), d a dict of the base -/
theorem for_values {x : Str} {px : Pos} {d : Addr} {es : Array DictEntry} {ep : Nat} (hh : A.handled = none) (hx : env.kindOf x = some .local)
    (hp : (env.scope.kind == .class || (env.scope.kind == .module && env.locals != env.globals)) = false)
    (ld : (d == sysModules) = false) (hd₀ : RawD h₀ d es ep) (F : Fr h₀ env.locals s.heap m) (N : News h₀ env.locals s.heap news)
    (J : Nat → (Str → Option Value) → List (Addr × Obj) → Prop) (h0 : J 0 m news)
    (mu : List Addr) (hmut : ∀ a ∈ mu, ∃ o, (a, o) ∈ news)
    (step : ∀ i en m₁ nx h tk own wr, es[i]? = some en → J i m₁ nx → (∀ q ∈ nx, q.1 ∉ wr) → (∀ b ∈ wr, ∃ o, (b, o) ∈ own) → (∀ p ∈ own, ∀ a ∈ mu, p.1 ≠ a) →
      Fr h₀ env.locals h (fun y => if y = x then some en.val else m₁ y) → News h₀ env.locals h (own ++ nx) →
      wpAny (model prog w) A (execs body env) (TurnQ h₀ env.locals wr own (J (i + 1)) s Q) E { s with heap := h, toks := tk })
    (done : ∀ h' tk m' nx, Fr h₀ env.locals h' m' → News h₀ env.locals h' nx → J es.size m' nx → Q .next { s with heap := h', toks := tk }) :
    wpAny (model prog w) A (call (.builtin "dict.values") [.ref d]) (fun xv s₁ => wpAny (model prog w) A (pyIter xv) (fun it s₂ => TurnsAt prog w A h₀ env (.Name x px) body Q E it s₂) E s₁) E s := by
  have hds : RawD s.heap d es ep := hd₀.at fun o e => F.keep d o e
  obtain ⟨od, hod, _⟩ := id hd₀
  have hlt : d < h₀.objs.size := Heap.lt_size hod
  have hLs : env.locals < s.heap.objs.size := F.ns.lt
  have hab : h₀.objs.size ≤ env.locals := F.above
  refine call_meetsIn PySem.F.slot_dict_values hds.typeIs PySem.F.entry_dict_values (PySem.F.args_dict_values_1 _) (meets_values d es ep ld) ⟨hds, ?_⟩
  have F' := F.push ({ cls := .type "dict_values", data := .fields #[.ref d] } : Obj)
  have N' : News h₀ env.locals _ news := fun p hp => ⟨Heap.get?_push_of_some ({ cls := .type "dict_values", data := .fields #[.ref d] } : Obj) (N p hp).1, (N p hp).2⟩
  have hsp : (s.heap.push { cls := .type "dict_values", data := .fields #[.ref d] }).objs.size = s.heap.objs.size + 1 := Heap.size_push ..
  have hds' : RawD (s.heap.push { cls := .type "dict_values", data := .fields #[.ref d] }) d es ep := hds.at fun o e => Heap.get?_push_of_some _ e
  have hv' : (s.heap.push { cls := .type "dict_values", data := .fields #[.ref d] }).IsValuesView s.heap.objs.size d := ⟨_, Heap.get?_push_size _ rfl, rfl, rfl⟩
  show wpAny _ _ (pyIter _) _ _ _
  generalize s.heap.push { cls := .type "dict_values", data := .fields #[.ref d] } = hv at F' N' hsp hds' hv' ⊢
  refine iter_values (s := { s with heap := hv }) hv' hds' ?_
  have hd2 : d < hv.objs.size := by rw [hsp]; exact Nat.lt_succ_of_lt (Nat.lt_trans (Nat.lt_of_lt_of_le hlt hab) hLs)
  have hL2 : env.locals < hv.objs.size := by rw [hsp]; exact Nat.lt_succ_of_lt hLs
  have W := KTurns.ofWalks (target := .Name x px) (valuesWalks (prog := prog) (w := w) hh hv.objs.size d (Nat.ne_of_lt hd2) es ep) (fun i v s Q E _ hq => wpAny_pure hq)
  have hnews : ∀ q ∈ news, q.1 < hv.objs.size := fun q hq => Heap.lt_size (N' q hq).1
  refine my_for W ?_ ?_ ?_ ?_ ⟨⟨_, Heap.get?_push_size _ rfl, rfl, rfl⟩, hds'.at fun o e => Heap.get?_push_of_some _ e⟩ (F'.push _) (fun p hp => ⟨Heap.get?_push_of_some _ (N' p hp).1, (N' p hp).2⟩) J h0 mu ?_ ?_ ?_
  · rintro i h ⟨⟨o, ho, _⟩, _⟩ b hb
    rw [List.mem_singleton.mp hb]; exact ⟨_, ho⟩
  · intro hm
    rcases List.mem_cons.mp hm with e | hm
    · exact absurd hL2 (e ▸ Nat.lt_irrefl _)
    · exact absurd (Nat.lt_of_lt_of_le hlt hab) ((List.mem_singleton.mp hm) ▸ Nat.lt_irrefl _)
  · intro b hb
    rw [List.mem_singleton.mp hb]; exact Heap.get?_none_of_le (Nat.le_trans hab (Nat.le_of_lt hL2))
  · intro p hp hm
    have := hnews p hp
    exact absurd ((List.mem_singleton.mp hm) ▸ this) (Nat.lt_irrefl _)
  · intro a ha hm
    obtain ⟨o, ho⟩ := hmut a ha
    have := hnews _ ho
    rcases List.mem_cons.mp hm with e | hm
    · subst e; exact absurd this (Nat.lt_irrefl _)
    · have e := List.mem_singleton.mp hm
      subst e
      have := (N _ ho).2.2
      rw [hod] at this; cases this
  · rintro i v m₁ nx h tk own hi ⟨en, hxx, rfl⟩ hJ hnw hown hoff F₁ N₁
    refine assign_name hx hp F₁ N₁ fun h₂ tk₂ F₂ N₂ => ?_
    exact step i en m₁ nx h₂ tk₂ own _ hxx hJ hnw hown hoff F₂ N₂
  · intro h' tk m' nx F' N' hJ
    exact done h' tk m' nx F' N' hJ
end
end Mine
end TDct
section TTab
set_option autoImplicit false
namespace Mine

abbrev Tb := List (List MK × Int)
def getT (T : Tb) (k : List MK) : Option Int := (T.find? fun t => decide (t.1 = k)).map (·.2)
def putT (T : Tb) (k : List MK) (v : Int) : Tb := if (getT T k).isSome then T.map (fun t => if t.1 = k then (t.1, v) else t) else T ++ [(k, v)]
def addT (T : Tb) (k : List MK) (v : Int) : Tb := match getT T k with
  | some u => putT T k (u + v)
  | none => putT T k v
def mergeT (T₁ T₂ : Tb) : Tb := T₂.foldl (fun T t => addT T t.1 t.2) T₁
def copyT (T : Tb) : Tb := T.foldl (fun T t => putT T t.1 t.2) []
def sumT (T : Tb) : Int := T.foldl (fun n t => n + t.2) 0

theorem putT_length_le (T : Tb) (k : List MK) (v : Int) : (putT T k v).length ≤ T.length + 1 := by
  unfold putT
  split <;> simp
theorem addT_length_le (T : Tb) (k : List MK) (v : Int) : (addT T k v).length ≤ T.length + 1 := by
  unfold addT
  split <;> exact putT_length_le ..

abbrev Row := List MK × Addr × Value
def DOb (prog : Program) (w : World) (o : Obj) (xs : List Row) : Prop :=
  o.ExactDict ∧ ∃ es ep, o.data = .dict es ep ∧ es.toList = xs.map (entryOfKey (tupleKind (mix prog w))) ∧ (xs.map (·.1)).Nodup
/-- the entry bears the row -/
def RowOf (KP : List MK → Addr → Prop) (x : Row) (t : List MK × Int) : Prop := x.1 = t.1 ∧ (∃ tok, x.2.2 = .int t.2 tok) ∧ KP x.1 x.2.1
/-- the object is the table, its keys as KP says -/
def TabO (prog : Program) (w : World) (KP : List MK → Addr → Prop) (o : Obj) (T : Tb) : Prop := ∃ xs, DOb prog w o xs ∧ All2 (RowOf KP) xs T

section
variable {prog : Program} {w : World} {A : Around} {E : Value → Shared → Prop} {s : Shared} {KP KP' : List MK → Addr → Prop} {o : Obj} {T : Tb} {xs : List Row} {d a : Addr} {k : List MK}

theorem TabO.mono (h : ∀ ks a, KP ks a → KP' ks a) (x : TabO prog w KP o T) : TabO prog w KP' o T := by
  obtain ⟨xs, h1, h2⟩ := x
  exact ⟨xs, h1, h2.mono fun a b r => ⟨r.1, r.2.1, h _ _ r.2.2⟩⟩

theorem rows_keys (h : All2 (RowOf KP) xs T) : xs.map (·.1) = T.map (·.1) := by
  induction h with
  | nil => rfl
  | cons r _ ih => simp [ih, r.1]
theorem TabO.nodup (x : TabO prog w KP o T) : (T.map (·.1)).Nodup := by
  obtain ⟨xs, ⟨_, _, _, _, _, hn⟩, h⟩ := x
  rw [← rows_keys h]; exact hn
theorem TabO.raw (x : TabO prog w KP o T) {h : Heap} (ho : h.get? d = some o) : ∃ es ep, RawD h d es ep ∧ es.size = T.length ∧ ∀ (i : Nat) (en : DictEntry), es[i]? = some en → ∃ t a tok, T[i]? = some t ∧ en.key = .ref a ∧ en.val = .int t.2 tok ∧ KP t.1 a := by
  obtain ⟨xs, ⟨hc, es, ep, hd, he, hn⟩, h⟩ := x
  refine ⟨es, ep, ⟨o, ho, hc, hd⟩, ?_, ?_⟩
  · rw [← Array.length_toList, he, List.length_map, h.length]
  · intro i en hi
    rw [entry_at he] at hi
    obtain ⟨x, hx, rfl⟩ := Option.map_eq_some_iff.mp hi
    obtain ⟨t, ht, r1, ⟨tok, r2⟩, r3⟩ := h.get? hx
    exact ⟨t, x.2.1, tok, ht, rfl, r2, r1 ▸ r3⟩

theorem rows_at (h : All2 (RowOf KP) xs T) (k : List MK) : (atKey xs k = none ∧ getT T k = none) ∨ ∃ a v tok, atKey xs k = some (a, .int v tok) ∧ getT T k = some v := by
  induction h with
  | nil => exact .inl ⟨rfl, rfl⟩
  | @cons x t xs T r _ ih =>
    obtain ⟨r1, ⟨tok, r2⟩, _⟩ := r
    by_cases hk : x.1 = k
    · refine .inr ⟨x.2.1, t.2, tok, ?_, ?_⟩
      · simp [atKey, hk, ← r2]
      · simp [getT, ← r1, hk]
    · have hk' : ¬ t.1 = k := r1 ▸ hk
      simpa [atKey, getT, hk, hk'] using ih

theorem rows_map (h : All2 (RowOf KP) xs T) (k : List MK) (v : Int) (tok : Tok) : All2 (RowOf KP) (xs.map (putAt k (.int v tok))) (T.map fun t => if t.1 = k then (t.1, v) else t) := by
  induction h with
  | nil => exact .nil
  | @cons x t xs T r _ ih =>
    refine .cons ?_ ih
    obtain ⟨r1, r2, r3⟩ := r
    unfold putAt
    show RowOf KP _ (if t.1 = k then (t.1, v) else t)
    by_cases hk : x.1 = k
    · have hk' : t.1 = k := r1 ▸ hk
      rw [if_pos hk, if_pos hk']
      exact ⟨r1, ⟨tok, rfl⟩, r3⟩
    · have hk' : ¬ t.1 = k := r1 ▸ hk
      rw [if_neg hk, if_neg hk']
      exact ⟨r1, r2, r3⟩

theorem rows_stored (h : All2 (RowOf KP) xs T) (hk : KP k a) (v : Int) (tok : Tok) : All2 (RowOf KP) (storedH xs k a (.int v tok)) (putT T k v) := by
  unfold storedH putT
  rcases rows_at h k with ⟨e1, e2⟩ | ⟨b, u, t, e1, e2⟩
  · rw [e1, e2]
    exact h.append (.cons ⟨rfl, ⟨tok, rfl⟩, hk⟩ .nil)
  · rw [e1, e2]
    exact rows_map h k v tok

theorem dob_of (h : Heap) (ho : h.get? d = some o) (hD : DOb prog w o xs) (hk : ∀ ks b, KP ks b → IsTupleKey (mix prog w) h ks b) (hr : All2 (RowOf KP) xs T) : h.DictOfH (tupleKind (mix prog w)) d xs := by
  obtain ⟨hc, es, ep, hd, he, hn⟩ := hD
  refine ⟨o, es, ep, ho, hc, hd, he, ?_, hn⟩
  intro x hx
  obtain ⟨i, hi⟩ := List.mem_iff_getElem?.mp hx
  obtain ⟨t, _, r⟩ := hr.get? hi
  exact hk _ _ r.2.2

theorem IsTupleKey.mono' {h h' : Heap} {ks : List MK} {a : Addr} (hs : ∀ b o, h.get? b = some o → h'.get? b = some o) (x : IsTupleKey (mix prog w) h ks a) : IsTupleKey (mix prog w) h' ks a := by
  obtain ⟨o, items, n, ho, r⟩ := x
  exact ⟨o, items, n, hs _ _ ho, r⟩

theorem room1 {A : Around} (hu : A.units + 1 < cLine) : (tupleKind (mix prog w)).room A.in1 := tupleKind_room_in1 hu

theorem tab_in {Q : Value → Shared → Prop} (hu : A.units + 1 < cLine) (ho : s.heap.get? d = some o) (x : TabO prog w KP o T) (ld : (d == sysModules) = false)
    (hk : ∀ ks b, KP ks b → IsTupleKey (mix prog w) s.heap ks b) (hka : IsTupleKey (mix prog w) s.heap k a) (h : ∀ tk, Q (.bool (getT T k).isSome) { s with toks := tk }) :
    wpAny (model prog w) A (compareOp .In (.ref a) (.ref d)) Q E s := by
  obtain ⟨xs, hD, hr⟩ := x
  refine wpAny_in_heap (knd := tupleKind (mix prog w)) (room1 hu) hka ld (dob_of s.heap ho hD hk hr) ?_
  rcases rows_at hr k with ⟨e1, e2⟩ | ⟨b, u, t, e1, e2⟩
  · rw [e1]; have := h (s.toks + (tupleKind (mix prog w)).draws k); rw [e2] at this; exact this
  · rw [e1]; have := h (s.toks + (tupleKind (mix prog w)).draws k); rw [e2] at this; exact this

theorem tab_get {v : Int} {Q : Value → Shared → Prop} (hu : A.units + 1 < cLine) (ho : s.heap.get? d = some o) (x : TabO prog w KP o T)
    (hk : ∀ ks b, KP ks b → IsTupleKey (mix prog w) s.heap ks b) (hka : IsTupleKey (mix prog w) s.heap k a) (hg : getT T k = some v) (h : ∀ tok tk, Q (.int v tok) { s with toks := tk }) :
    wpAny (model prog w) A (getItem (.ref d) (.ref a)) Q E s := by
  obtain ⟨xs, hD, hr⟩ := x
  rcases rows_at hr k with ⟨e1, e2⟩ | ⟨b, u, t, e1, e2⟩
  · rw [hg] at e2; cases e2
  · refine wpAny_getItem_heap (knd := tupleKind (mix prog w)) (room1 hu) hka (dob_of s.heap ho hD hk hr) e1 ?_
    rw [hg] at e2
    obtain rfl := Option.some.inj e2
    exact h _ _

theorem tab_item {value slice : Expr} {v : Int} {Q : Value → Shared → Prop} (hu : A.units + 1 < cLine) (ho : s.heap.get? d = some o) (x : TabO prog w KP o T)
    (hk : ∀ ks b, KP ks b → IsTupleKey (mix prog w) s.heap ks b) (hka : IsTupleKey (mix prog w) s.heap k a) (hg : getT T k = some v) (h : ∀ tok tk, Q (.int v tok) { s with toks := tk })
    (hs : subscripted slice false (.ref d) (.ref a) = operate [.ref d, .ref a] (getItem (.ref d) (.ref a))) (hl : ∀ r, letTemporaryGo value (.ref d) r = pure ()) :
    wpAny (model prog w) A (subscriptTail value slice (.ref d) (.ref a)) Q E s := by
  have hT : s.TypeIs (.ref d) "dict" := ⟨o, ho, (let ⟨_, hD, _⟩ := x; hD.1.1)⟩
  exact subscriptTail_builtin hT slot_dict_getitem.lookup (tab_get hu ho x hk hka hg h) hs hl

theorem tab_set {v : Int} {tok : Tok} {Q : Unit → Shared → Prop} {h₀ : Heap} {L : Addr} {m : Str → Option Value} {own rest : List (Addr × Obj)} (hu : A.units + 1 < cLine)
    (F : Fr h₀ L s.heap m) (N : News h₀ L s.heap (own ++ (d, o) :: rest)) (h1 : ∀ p ∈ own, p.1 ≠ d) (h2 : ∀ p ∈ rest, p.1 ≠ d) (x : TabO prog w KP o T)
    (hk : ∀ ks b, KP ks b → IsTupleKey (mix prog w) s.heap ks b) (hka : KP k a) (hsz : T.length ≤ sizeLine)
    (h : ∀ h' tk o', Fr h₀ L h' m → News h₀ L h' (own ++ (d, o') :: rest) → TabO prog w KP o' (putT T k v) → Q () { s with heap := h', toks := tk }) :
    wpAny (model prog w) A (setItem (.ref d) (.ref a) (.int v tok)) Q E s := by
  obtain ⟨xs, hD, hr⟩ := x
  have hm := N (d, o) (List.mem_append_right _ (.head _))
  refine wpAny_setItem_heap (hsz := by rw [hr.length]; exact hsz) (knd := tupleKind (mix prog w)) (room1 hu) (hk _ _ hka) (dob_of s.heap hm.1 hD hk hr) fun h' hm' hs => ?_
  obtain ⟨o', es', ep', ho', hc', hd', he', _, hn'⟩ := hm'
  exact h h' _ o' (F.change hs hm.2.1 hm.2.2) (N.setIn h1 h2 hs ho') ⟨_, ⟨hc', es', ep', hd', he', hn'⟩, rows_stored hr hka v tok⟩

theorem tab_new {K : Type} [DecidableEq K] {knd : KeyKind prog w K} (hd : o.IsDictOf knd []) : TabO prog w KP o [] := by
  obtain ⟨es, ep, hc, hdat, _, hp, _⟩ := hd
  have he : es.toList = [] := List.length_eq_zero_iff.mp hp.length
  exact ⟨[], ⟨hc, es, ep, hdat, he, List.nodup_nil⟩, .nil⟩
end

theorem putT_fresh {T : Tb} {k : List MK} {v : Int} (h : k ∉ T.map (·.1)) : putT T k v = T ++ [(k, v)] := by
  have : getT T k = none := by
    unfold getT
    rw [List.find?_eq_none.mpr]
    · rfl
    · intro t ht hk
      exact h (List.mem_map.mpr ⟨t, ht, of_decide_eq_true hk⟩)
  simp [putT, this]
theorem copyT_eq {T : Tb} (hn : (T.map (·.1)).Nodup) : copyT T = T := by
  have gen : ∀ (R S : Tb), ((S ++ R).map (·.1)).Nodup → R.foldl (fun T t => putT T t.1 t.2) S = S ++ R := by
    intro R
    induction R with
    | nil => intro S _; simp
    | cons t R ih =>
      intro S hS
      rw [List.foldl_cons, putT_fresh, ih]
      · simp
      · simpa using hS
      · intro hm
        rw [List.map_append, List.map_cons, List.nodup_append] at hS
        exact hS.2.2 _ hm _ (.head _) rfl
  exact gen T [] (by simpa using hn)
theorem fold_take_succ {α β : Type} (f : β → α → β) (b : β) (l : List α) (i : Nat) (x : α) (h : l[i]? = some x) : (l.take (i + 1)).foldl f b = f ((l.take i).foldl f b) x := by
  rw [List.take_add_one, h]
  simp
theorem fold_length_le {f : Tb → List MK → Int → Tb} (hf : ∀ T k v, (f T k v).length ≤ T.length + 1) (R : Tb) : ∀ S : Tb, (R.foldl (fun T t => f T t.1 t.2) S).length ≤ S.length + R.length := by
  induction R with
  | nil => intro S; simp
  | cons t R ih =>
    intro S
    have h1 := ih (f S t.1 t.2)
    have h2 := hf S t.1 t.2
    simp only [List.foldl_cons, List.length_cons]
    omega
end Mine
end TTab
section TAdd
set_option autoImplicit false
namespace Mine
theorem IsTupleKey.mono {prog : Program} {w : World} {h h' : Heap} {ks : List MK} {a : Addr} (hs : ∀ b o, h.get? b = some o → h'.get? b = some o) (x : IsTupleKey (mix prog w) h ks a) : IsTupleKey (mix prog w) h' ks a := by
  obtain ⟨o, items, n, ho, r⟩ := x
  exact ⟨o, items, n, hs _ _ ho, r⟩

theorem add_spec {prog : Program} {w : World} {dp un : Nat} {fr : Option (List Env)} {gd : Option (List Code)} {E : Value → Shared → Prop} {s : Shared} {Q : Value → Shared → Prop} {mean : ExcName → Option Value} {mg mb : Str → Option Value}
  (X0 : (hd.heap_39 w.params).In s.heap) (T0 : Top hd.view_39 LS mean mg mb s.heap) (hdp : dp + 20 < recursionLimit) (hun : un + 150 < cLine)
  {KP : List MK → Addr → Prop} (hKP : ∀ ks b, KP ks b → IsTupleKey (mix prog w) s.heap ks b) {d1 d2 : Addr} {o1 o2 : Obj} {T1 T2 : Tb} (h1 : s.heap.get? d1 = some o1) (h2 : s.heap.get? d2 = some o2) (l1 : (d1 == sysModules) = false) (l2 : (d2 == sysModules) = false)
  (x1 : TabO prog w KP o1 T1) (x2 : TabO prog w KP o2 T2) (hsz : T1.length + T2.length ≤ sizeLine)
  (h : ∀ h' tk d o, s.heap.StaysIn h' → s.heap.get? d = none → (d == sysModules) = false → h'.get? d = some o → TabO prog w KP o (mergeT T1 T2) → Q (.ref d) { s with heap := h', toks := tk }) :
    wpAny (model prog w) (AA dp un fr gd) (call (.ref 39) [.ref d1, .ref d2]) Q E s := by
  refine' call_raw (K := hd.heap_39 w.params) (binds := [((Str.ofString "target"), .ref d1), ((Str.ofString "source"), .ref d2)]) X0 T0.nolimit ?k6 ?k7 ?k8 ?k9 ?kB ?c2 ?c3 ?c4 ?c5 ?_
  (case k6 => k_is)
  (case k7 => k_is)
  (case k8 => first | (simp only [depth_deeper]; omega) | omega)
  (case k9 => first | exact BindsTo.of_eq rfl | exact binds_K X0 rfl (by k_is) rfl rfl rfl | exact binds_KW X0 rfl (by k_is) rfl rfl rfl (by k_is) rfl)
  (case kB => exact locs rfl)
  (case c2 => exact rfl)
  (case c3 => exact rfl)
  (case c4 => exact rfl)
  (case c5 => decide)
  intro h₁ F1
  (try dsimp only)
  k_fold
  have N1 : News s.heap s.heap.objs.size h₁ [] := News.nil
  obtain ⟨es1, ep1, r1, n1, g1⟩ := x1.raw h1
  obtain ⟨es2, ep2, r2, n2, g2⟩ := x2.raw h2
  repeat' (first | (k_unfold; (try dsimp only)) | ((fail_if_success (with_reducible show wpAny _ _ (getMethod (Value.ref _) (Str.ofString "items") _) _ _ _)); (fail_if_success (with_reducible show wpAny _ _ (getMethod (Value.ref _) (Str.ofString "values") _) _ _ _)); (fail_if_success (with_reducible show wpAny _ _ (call (Value.builtin "dict.items") _) _ _ _)); (fail_if_success (with_reducible show wpAny _ _ (call (Value.builtin "dict.values") _) _ _ _)); (fail_if_success (with_reducible show wpAny _ _ (compareOp CmpOp.In (Value.ref _) (Value.ref _)) _ _ _)); (fail_if_success (with_reducible show wpAny _ _ (setItem (Value.ref _) (Value.ref _) _) _ _ _)); (fail_if_success (with_reducible show wpAny _ _ (subscriptTail _ _ (Value.ref _) (Value.ref _)) _ _ _)); (fail_if_success (with_reducible show wpAny _ _ (eval (Expr.Name (Str.ofString "k") _) (compEnvC _ _ _ _)) _ _ _)); (fail_if_success (with_reducible show wpAny _ _ (call (Value.builtin "list.append") _ _) _ _ _)); (fail_if_success (with_reducible show wpAny _ _ (subscriptTail _ (Expr.Slice _ _ _ _) (Value.ref _) (Value.ref _)) _ _ _)); (fail_if_success (with_reducible show wpAny _ _ (compareOp CmpOp.NotEq (Value.ref _) (Value.ref _)) _ _ _)); (fail_if_success (with_reducible show wpAny _ _ (compareOp CmpOp.Eq (Value.ref _) (Value.ref _)) _ _ _)); (fail_if_success (with_reducible show wpAny _ _ (compareOp CmpOp.Lt (Value.ref _) (Value.ref _)) _ _ _)); (fail_if_success (with_reducible show wpAny _ _ (call (Value.type "enumerate") _ _) _ _ _)); (fail_if_success (with_reducible show wpAny _ _ (exec (Stmt.While _ _ _ _) _) _ _ _)); (fail_if_success (with_reducible show wpAny _ _ (exec (Stmt.For _ _ _ _ _) _) _ _ _)); (fail_if_success (with_reducible show wpAny _ _ (call (Value.ref _) _ _) _ _ _)); (fail_if_success (with_reducible show wpAny _ _ (eval (Expr.ListComp _ _ _ _) _) _ _ _)); walk1; (try dsimp only)))
  rename Fr _ _ _ _ => F2
  rename News _ _ _ _ => N2
  rename (Obj.IsDictOf (intKind _ _) _ _) => hnew
  rename (_ == sysModules) = false => lnew
  rename_i nd _ onew _ _ _ _ _
  refine For_turns F2 ?_
  repeat' (first | (k_unfold; (try dsimp only)) | ((fail_if_success (with_reducible show wpAny _ _ (getMethod (Value.ref _) (Str.ofString "items") _) _ _ _)); (fail_if_success (with_reducible show wpAny _ _ (getMethod (Value.ref _) (Str.ofString "values") _) _ _ _)); (fail_if_success (with_reducible show wpAny _ _ (call (Value.builtin "dict.items") _) _ _ _)); (fail_if_success (with_reducible show wpAny _ _ (call (Value.builtin "dict.values") _) _ _ _)); (fail_if_success (with_reducible show wpAny _ _ (compareOp CmpOp.In (Value.ref _) (Value.ref _)) _ _ _)); (fail_if_success (with_reducible show wpAny _ _ (setItem (Value.ref _) (Value.ref _) _) _ _ _)); (fail_if_success (with_reducible show wpAny _ _ (subscriptTail _ _ (Value.ref _) (Value.ref _)) _ _ _)); (fail_if_success (with_reducible show wpAny _ _ (eval (Expr.Name (Str.ofString "k") _) (compEnvC _ _ _ _)) _ _ _)); (fail_if_success (with_reducible show wpAny _ _ (call (Value.builtin "list.append") _ _) _ _ _)); (fail_if_success (with_reducible show wpAny _ _ (subscriptTail _ (Expr.Slice _ _ _ _) (Value.ref _) (Value.ref _)) _ _ _)); (fail_if_success (with_reducible show wpAny _ _ (compareOp CmpOp.NotEq (Value.ref _) (Value.ref _)) _ _ _)); (fail_if_success (with_reducible show wpAny _ _ (compareOp CmpOp.Eq (Value.ref _) (Value.ref _)) _ _ _)); (fail_if_success (with_reducible show wpAny _ _ (compareOp CmpOp.Lt (Value.ref _) (Value.ref _)) _ _ _)); (fail_if_success (with_reducible show wpAny _ _ (call (Value.type "enumerate") _ _) _ _ _)); (fail_if_success (with_reducible show wpAny _ _ (exec (Stmt.While _ _ _ _) _) _ _ _)); (fail_if_success (with_reducible show wpAny _ _ (exec (Stmt.For _ _ _ _ _) _) _ _ _)); (fail_if_success (with_reducible show wpAny _ _ (call (Value.ref _) _ _) _ _ _)); (fail_if_success (with_reducible show wpAny _ _ (eval (Expr.ListComp _ _ _ _) _) _ _ _)); walk1; (try dsimp only)))
  refine getMethod_items (r1.at fun o e => F2.keep d1 o e) ?_
  repeat' (first | (k_unfold; (try dsimp only)) | ((fail_if_success (with_reducible show wpAny _ _ (getMethod (Value.ref _) (Str.ofString "items") _) _ _ _)); (fail_if_success (with_reducible show wpAny _ _ (getMethod (Value.ref _) (Str.ofString "values") _) _ _ _)); (fail_if_success (with_reducible show wpAny _ _ (call (Value.builtin "dict.items") _) _ _ _)); (fail_if_success (with_reducible show wpAny _ _ (call (Value.builtin "dict.values") _) _ _ _)); (fail_if_success (with_reducible show wpAny _ _ (compareOp CmpOp.In (Value.ref _) (Value.ref _)) _ _ _)); (fail_if_success (with_reducible show wpAny _ _ (setItem (Value.ref _) (Value.ref _) _) _ _ _)); (fail_if_success (with_reducible show wpAny _ _ (subscriptTail _ _ (Value.ref _) (Value.ref _)) _ _ _)); (fail_if_success (with_reducible show wpAny _ _ (eval (Expr.Name (Str.ofString "k") _) (compEnvC _ _ _ _)) _ _ _)); (fail_if_success (with_reducible show wpAny _ _ (call (Value.builtin "list.append") _ _) _ _ _)); (fail_if_success (with_reducible show wpAny _ _ (subscriptTail _ (Expr.Slice _ _ _ _) (Value.ref _) (Value.ref _)) _ _ _)); (fail_if_success (with_reducible show wpAny _ _ (compareOp CmpOp.NotEq (Value.ref _) (Value.ref _)) _ _ _)); (fail_if_success (with_reducible show wpAny _ _ (compareOp CmpOp.Eq (Value.ref _) (Value.ref _)) _ _ _)); (fail_if_success (with_reducible show wpAny _ _ (compareOp CmpOp.Lt (Value.ref _) (Value.ref _)) _ _ _)); (fail_if_success (with_reducible show wpAny _ _ (call (Value.type "enumerate") _ _) _ _ _)); (fail_if_success (with_reducible show wpAny _ _ (exec (Stmt.While _ _ _ _) _) _ _ _)); (fail_if_success (with_reducible show wpAny _ _ (exec (Stmt.For _ _ _ _ _) _) _ _ _)); (fail_if_success (with_reducible show wpAny _ _ (call (Value.ref _) _ _) _ _ _)); (fail_if_success (with_reducible show wpAny _ _ (eval (Expr.ListComp _ _ _ _) _) _ _ _)); walk1; (try dsimp only)))
  refine for_items rfl rfl rfl rfl l1 r1 F2 N2 (fun i m nx => ∃ o u1 u2, nx = [(nd, o)] ∧ TabO prog w KP o ((T1.take i).foldl (fun T t => putT T t.1 t.2) []) ∧
    m = fun y => if y = (Str.ofString "caller") then u1 else if y = (Str.ofString "func") then u2 else if y = (Str.ofString "new_callers") then some (.ref nd) else List.lookup y [((Str.ofString "target"), .ref d1), ((Str.ofString "source"), .ref d2)].reverse)
    ?_ [nd] ?_ ?_ ?_
  · refine' ⟨_, none, none, rfl, tab_new hnew, ?meq⟩
    case meq =>
      (funext y; first | rfl | ((try dsimp only); by_cases hh0 : y = (Str.ofString "caller"); (· subst hh0; rfl); by_cases hh1 : y = (Str.ofString "func"); (· subst hh1; rfl); by_cases hh2 : y = (Str.ofString "new_callers"); (· subst hh2; rfl); simp only [hh0, hh1, hh2, if_false]))
  · intro a ha; rw [List.mem_singleton.mp ha]; exact ⟨_, .head _⟩
  · rintro i en m₁ nx h3 tk3 own wr hen ⟨o, u1, u2, rfl, ht, rfl⟩ hnw hown hoff F3 N3
    obtain ⟨t, a, tok, hti, hka, hva, hKa⟩ := g1 i en hen
    rw [hka, hva] at F3
    dsimp only [envOf] at F3 N3
    k_fold
    repeat' (first | (k_unfold; (try dsimp only)) | ((fail_if_success (with_reducible show wpAny _ _ (getMethod (Value.ref _) (Str.ofString "items") _) _ _ _)); (fail_if_success (with_reducible show wpAny _ _ (getMethod (Value.ref _) (Str.ofString "values") _) _ _ _)); (fail_if_success (with_reducible show wpAny _ _ (call (Value.builtin "dict.items") _) _ _ _)); (fail_if_success (with_reducible show wpAny _ _ (call (Value.builtin "dict.values") _) _ _ _)); (fail_if_success (with_reducible show wpAny _ _ (compareOp CmpOp.In (Value.ref _) (Value.ref _)) _ _ _)); (fail_if_success (with_reducible show wpAny _ _ (setItem (Value.ref _) (Value.ref _) _) _ _ _)); (fail_if_success (with_reducible show wpAny _ _ (subscriptTail _ _ (Value.ref _) (Value.ref _)) _ _ _)); (fail_if_success (with_reducible show wpAny _ _ (eval (Expr.Name (Str.ofString "k") _) (compEnvC _ _ _ _)) _ _ _)); (fail_if_success (with_reducible show wpAny _ _ (call (Value.builtin "list.append") _ _) _ _ _)); (fail_if_success (with_reducible show wpAny _ _ (subscriptTail _ (Expr.Slice _ _ _ _) (Value.ref _) (Value.ref _)) _ _ _)); (fail_if_success (with_reducible show wpAny _ _ (compareOp CmpOp.NotEq (Value.ref _) (Value.ref _)) _ _ _)); (fail_if_success (with_reducible show wpAny _ _ (compareOp CmpOp.Eq (Value.ref _) (Value.ref _)) _ _ _)); (fail_if_success (with_reducible show wpAny _ _ (compareOp CmpOp.Lt (Value.ref _) (Value.ref _)) _ _ _)); (fail_if_success (with_reducible show wpAny _ _ (call (Value.type "enumerate") _ _) _ _ _)); (fail_if_success (with_reducible show wpAny _ _ (exec (Stmt.While _ _ _ _) _) _ _ _)); (fail_if_success (with_reducible show wpAny _ _ (exec (Stmt.For _ _ _ _ _) _) _ _ _)); (fail_if_success (with_reducible show wpAny _ _ (call (Value.ref _) _ _) _ _ _)); (fail_if_success (with_reducible show wpAny _ _ (eval (Expr.ListComp _ _ _ _) _) _ _ _)); walk1; (try dsimp only)))
    refine tab_set (o := o) (by show un + 3 + 1 < cLine; omega) F3 N3 (fun p hp => hoff p hp nd (.head _)) (fun _ hp => nomatch hp) ht (fun ks b k => IsTupleKey.mono F3.keep (hKP ks b k)) hKa ?_ ?_
    · have e1 := fold_length_le putT_length_le (T1.take i) []
      have e2 : (T1.take i).length ≤ T1.length := by rw [List.length_take]; omega
      simp only [List.length_nil] at e1
      omega
    intro h4 tk4 o4 F4 N4 ht4
    repeat' (first | (k_unfold; (try dsimp only)) | ((fail_if_success (with_reducible show wpAny _ _ (getMethod (Value.ref _) (Str.ofString "items") _) _ _ _)); (fail_if_success (with_reducible show wpAny _ _ (getMethod (Value.ref _) (Str.ofString "values") _) _ _ _)); (fail_if_success (with_reducible show wpAny _ _ (call (Value.builtin "dict.items") _) _ _ _)); (fail_if_success (with_reducible show wpAny _ _ (call (Value.builtin "dict.values") _) _ _ _)); (fail_if_success (with_reducible show wpAny _ _ (compareOp CmpOp.In (Value.ref _) (Value.ref _)) _ _ _)); (fail_if_success (with_reducible show wpAny _ _ (setItem (Value.ref _) (Value.ref _) _) _ _ _)); (fail_if_success (with_reducible show wpAny _ _ (subscriptTail _ _ (Value.ref _) (Value.ref _)) _ _ _)); (fail_if_success (with_reducible show wpAny _ _ (eval (Expr.Name (Str.ofString "k") _) (compEnvC _ _ _ _)) _ _ _)); (fail_if_success (with_reducible show wpAny _ _ (call (Value.builtin "list.append") _ _) _ _ _)); (fail_if_success (with_reducible show wpAny _ _ (subscriptTail _ (Expr.Slice _ _ _ _) (Value.ref _) (Value.ref _)) _ _ _)); (fail_if_success (with_reducible show wpAny _ _ (compareOp CmpOp.NotEq (Value.ref _) (Value.ref _)) _ _ _)); (fail_if_success (with_reducible show wpAny _ _ (compareOp CmpOp.Eq (Value.ref _) (Value.ref _)) _ _ _)); (fail_if_success (with_reducible show wpAny _ _ (compareOp CmpOp.Lt (Value.ref _) (Value.ref _)) _ _ _)); (fail_if_success (with_reducible show wpAny _ _ (call (Value.type "enumerate") _ _) _ _ _)); (fail_if_success (with_reducible show wpAny _ _ (exec (Stmt.While _ _ _ _) _) _ _ _)); (fail_if_success (with_reducible show wpAny _ _ (exec (Stmt.For _ _ _ _ _) _) _ _ _)); (fail_if_success (with_reducible show wpAny _ _ (call (Value.ref _) _ _) _ _ _)); (fail_if_success (with_reducible show wpAny _ _ (eval (Expr.ListComp _ _ _ _) _) _ _ _)); walk1; (try dsimp only)))
    refine' TurnQ.intro F4 N4 ?_ ⟨_, _, _, rfl, ?_, ?meq⟩
    case meq =>
      (funext y; first | rfl | ((try dsimp only); by_cases hh0 : y = (Str.ofString "caller"); (· subst hh0; rfl); by_cases hh1 : y = (Str.ofString "func"); (· subst hh1; rfl); by_cases hh2 : y = (Str.ofString "new_callers"); (· subst hh2; rfl); simp only [hh0, hh1, hh2, if_false]))
    · intro q hq
      rw [List.mem_singleton.mp hq]
      exact hnw (nd, o) (.head _)
    · rw [fold_take_succ _ _ _ _ _ hti]; exact ht4
  · rintro h3 tk3 m3 nx3 F3 N3 ⟨o, u1, u2, rfl, ht, rfl⟩
    rw [n1, List.take_length, show T1.foldl (fun T t => putT T t.1 t.2) [] = T1 from copyT_eq x1.nodup] at ht
    dsimp only [envOf] at F3 N3
    repeat' (first | (k_unfold; (try dsimp only)) | ((fail_if_success (with_reducible show wpAny _ _ (getMethod (Value.ref _) (Str.ofString "items") _) _ _ _)); (fail_if_success (with_reducible show wpAny _ _ (getMethod (Value.ref _) (Str.ofString "values") _) _ _ _)); (fail_if_success (with_reducible show wpAny _ _ (call (Value.builtin "dict.items") _) _ _ _)); (fail_if_success (with_reducible show wpAny _ _ (call (Value.builtin "dict.values") _) _ _ _)); (fail_if_success (with_reducible show wpAny _ _ (compareOp CmpOp.In (Value.ref _) (Value.ref _)) _ _ _)); (fail_if_success (with_reducible show wpAny _ _ (setItem (Value.ref _) (Value.ref _) _) _ _ _)); (fail_if_success (with_reducible show wpAny _ _ (subscriptTail _ _ (Value.ref _) (Value.ref _)) _ _ _)); (fail_if_success (with_reducible show wpAny _ _ (eval (Expr.Name (Str.ofString "k") _) (compEnvC _ _ _ _)) _ _ _)); (fail_if_success (with_reducible show wpAny _ _ (call (Value.builtin "list.append") _ _) _ _ _)); (fail_if_success (with_reducible show wpAny _ _ (subscriptTail _ (Expr.Slice _ _ _ _) (Value.ref _) (Value.ref _)) _ _ _)); (fail_if_success (with_reducible show wpAny _ _ (compareOp CmpOp.NotEq (Value.ref _) (Value.ref _)) _ _ _)); (fail_if_success (with_reducible show wpAny _ _ (compareOp CmpOp.Eq (Value.ref _) (Value.ref _)) _ _ _)); (fail_if_success (with_reducible show wpAny _ _ (compareOp CmpOp.Lt (Value.ref _) (Value.ref _)) _ _ _)); (fail_if_success (with_reducible show wpAny _ _ (call (Value.type "enumerate") _ _) _ _ _)); (fail_if_success (with_reducible show wpAny _ _ (exec (Stmt.While _ _ _ _) _) _ _ _)); (fail_if_success (with_reducible show wpAny _ _ (exec (Stmt.For _ _ _ _ _) _) _ _ _)); (fail_if_success (with_reducible show wpAny _ _ (call (Value.ref _) _ _) _ _ _)); (fail_if_success (with_reducible show wpAny _ _ (eval (Expr.ListComp _ _ _ _) _) _ _ _)); walk1; (try dsimp only)))
    refine For_turns F3 ?_
    repeat' (first | (k_unfold; (try dsimp only)) | ((fail_if_success (with_reducible show wpAny _ _ (getMethod (Value.ref _) (Str.ofString "items") _) _ _ _)); (fail_if_success (with_reducible show wpAny _ _ (getMethod (Value.ref _) (Str.ofString "values") _) _ _ _)); (fail_if_success (with_reducible show wpAny _ _ (call (Value.builtin "dict.items") _) _ _ _)); (fail_if_success (with_reducible show wpAny _ _ (call (Value.builtin "dict.values") _) _ _ _)); (fail_if_success (with_reducible show wpAny _ _ (compareOp CmpOp.In (Value.ref _) (Value.ref _)) _ _ _)); (fail_if_success (with_reducible show wpAny _ _ (setItem (Value.ref _) (Value.ref _) _) _ _ _)); (fail_if_success (with_reducible show wpAny _ _ (subscriptTail _ _ (Value.ref _) (Value.ref _)) _ _ _)); (fail_if_success (with_reducible show wpAny _ _ (eval (Expr.Name (Str.ofString "k") _) (compEnvC _ _ _ _)) _ _ _)); (fail_if_success (with_reducible show wpAny _ _ (call (Value.builtin "list.append") _ _) _ _ _)); (fail_if_success (with_reducible show wpAny _ _ (subscriptTail _ (Expr.Slice _ _ _ _) (Value.ref _) (Value.ref _)) _ _ _)); (fail_if_success (with_reducible show wpAny _ _ (compareOp CmpOp.NotEq (Value.ref _) (Value.ref _)) _ _ _)); (fail_if_success (with_reducible show wpAny _ _ (compareOp CmpOp.Eq (Value.ref _) (Value.ref _)) _ _ _)); (fail_if_success (with_reducible show wpAny _ _ (compareOp CmpOp.Lt (Value.ref _) (Value.ref _)) _ _ _)); (fail_if_success (with_reducible show wpAny _ _ (call (Value.type "enumerate") _ _) _ _ _)); (fail_if_success (with_reducible show wpAny _ _ (exec (Stmt.While _ _ _ _) _) _ _ _)); (fail_if_success (with_reducible show wpAny _ _ (exec (Stmt.For _ _ _ _ _) _) _ _ _)); (fail_if_success (with_reducible show wpAny _ _ (call (Value.ref _) _ _) _ _ _)); (fail_if_success (with_reducible show wpAny _ _ (eval (Expr.ListComp _ _ _ _) _) _ _ _)); walk1; (try dsimp only)))
    refine getMethod_items (r2.at fun o e => F3.keep d2 o e) ?_
    repeat' (first | (k_unfold; (try dsimp only)) | ((fail_if_success (with_reducible show wpAny _ _ (getMethod (Value.ref _) (Str.ofString "items") _) _ _ _)); (fail_if_success (with_reducible show wpAny _ _ (getMethod (Value.ref _) (Str.ofString "values") _) _ _ _)); (fail_if_success (with_reducible show wpAny _ _ (call (Value.builtin "dict.items") _) _ _ _)); (fail_if_success (with_reducible show wpAny _ _ (call (Value.builtin "dict.values") _) _ _ _)); (fail_if_success (with_reducible show wpAny _ _ (compareOp CmpOp.In (Value.ref _) (Value.ref _)) _ _ _)); (fail_if_success (with_reducible show wpAny _ _ (setItem (Value.ref _) (Value.ref _) _) _ _ _)); (fail_if_success (with_reducible show wpAny _ _ (subscriptTail _ _ (Value.ref _) (Value.ref _)) _ _ _)); (fail_if_success (with_reducible show wpAny _ _ (eval (Expr.Name (Str.ofString "k") _) (compEnvC _ _ _ _)) _ _ _)); (fail_if_success (with_reducible show wpAny _ _ (call (Value.builtin "list.append") _ _) _ _ _)); (fail_if_success (with_reducible show wpAny _ _ (subscriptTail _ (Expr.Slice _ _ _ _) (Value.ref _) (Value.ref _)) _ _ _)); (fail_if_success (with_reducible show wpAny _ _ (compareOp CmpOp.NotEq (Value.ref _) (Value.ref _)) _ _ _)); (fail_if_success (with_reducible show wpAny _ _ (compareOp CmpOp.Eq (Value.ref _) (Value.ref _)) _ _ _)); (fail_if_success (with_reducible show wpAny _ _ (compareOp CmpOp.Lt (Value.ref _) (Value.ref _)) _ _ _)); (fail_if_success (with_reducible show wpAny _ _ (call (Value.type "enumerate") _ _) _ _ _)); (fail_if_success (with_reducible show wpAny _ _ (exec (Stmt.While _ _ _ _) _) _ _ _)); (fail_if_success (with_reducible show wpAny _ _ (exec (Stmt.For _ _ _ _ _) _) _ _ _)); (fail_if_success (with_reducible show wpAny _ _ (call (Value.ref _) _ _) _ _ _)); (fail_if_success (with_reducible show wpAny _ _ (eval (Expr.ListComp _ _ _ _) _) _ _ _)); walk1; (try dsimp only)))
    refine for_items rfl rfl rfl rfl l2 r2 F3 N3 (fun i m nx => ∃ o u1 u2, nx = [(nd, o)] ∧ TabO prog w KP o (mergeT T1 (T2.take i)) ∧
      m = fun y => if y = (Str.ofString "caller") then u1 else if y = (Str.ofString "func") then u2 else if y = (Str.ofString "new_callers") then some (.ref nd) else List.lookup y [((Str.ofString "target"), .ref d1), ((Str.ofString "source"), .ref d2)].reverse)
      ⟨o, u1, u2, rfl, ht, rfl⟩ [nd] ?_ ?_ ?_
    · intro a ha; rw [List.mem_singleton.mp ha]; exact ⟨_, .head _⟩
    · clear ht F3 N3 u1 u2 o
      rintro i en m₁ nx h3 tk3 own wr hen ⟨o, u1, u2, rfl, ht, rfl⟩ hnw hown hoff F3 N3
      obtain ⟨t, a, tok, hti, hka, hva, hKa⟩ := g2 i en hen
      rw [hka, hva] at F3
      dsimp only [envOf] at F3 N3
      k_fold
      have hlen : (mergeT T1 (T2.take i)).length ≤ sizeLine := by
        have e1 := fold_length_le addT_length_le (T2.take i) T1
        have e2 : (T2.take i).length ≤ T2.length := by rw [List.length_take]; omega
        show ((T2.take i).foldl (fun T t => addT T t.1 t.2) T1).length ≤ sizeLine
        omega
      repeat' (first | (k_unfold; (try dsimp only)) | ((fail_if_success (with_reducible show wpAny _ _ (getMethod (Value.ref _) (Str.ofString "items") _) _ _ _)); (fail_if_success (with_reducible show wpAny _ _ (getMethod (Value.ref _) (Str.ofString "values") _) _ _ _)); (fail_if_success (with_reducible show wpAny _ _ (call (Value.builtin "dict.items") _) _ _ _)); (fail_if_success (with_reducible show wpAny _ _ (call (Value.builtin "dict.values") _) _ _ _)); (fail_if_success (with_reducible show wpAny _ _ (compareOp CmpOp.In (Value.ref _) (Value.ref _)) _ _ _)); (fail_if_success (with_reducible show wpAny _ _ (setItem (Value.ref _) (Value.ref _) _) _ _ _)); (fail_if_success (with_reducible show wpAny _ _ (subscriptTail _ _ (Value.ref _) (Value.ref _)) _ _ _)); (fail_if_success (with_reducible show wpAny _ _ (eval (Expr.Name (Str.ofString "k") _) (compEnvC _ _ _ _)) _ _ _)); (fail_if_success (with_reducible show wpAny _ _ (call (Value.builtin "list.append") _ _) _ _ _)); (fail_if_success (with_reducible show wpAny _ _ (subscriptTail _ (Expr.Slice _ _ _ _) (Value.ref _) (Value.ref _)) _ _ _)); (fail_if_success (with_reducible show wpAny _ _ (compareOp CmpOp.NotEq (Value.ref _) (Value.ref _)) _ _ _)); (fail_if_success (with_reducible show wpAny _ _ (compareOp CmpOp.Eq (Value.ref _) (Value.ref _)) _ _ _)); (fail_if_success (with_reducible show wpAny _ _ (compareOp CmpOp.Lt (Value.ref _) (Value.ref _)) _ _ _)); (fail_if_success (with_reducible show wpAny _ _ (call (Value.type "enumerate") _ _) _ _ _)); (fail_if_success (with_reducible show wpAny _ _ (exec (Stmt.While _ _ _ _) _) _ _ _)); (fail_if_success (with_reducible show wpAny _ _ (exec (Stmt.For _ _ _ _ _) _) _ _ _)); (fail_if_success (with_reducible show wpAny _ _ (call (Value.ref _) _ _) _ _ _)); (fail_if_success (with_reducible show wpAny _ _ (eval (Expr.ListComp _ _ _ _) _) _ _ _)); walk1; (try dsimp only)))
      have hkp := fun ks b k => IsTupleKey.mono (prog := prog) (w := w) (ks := ks) (a := b) F3.keep (hKP ks b k)
      refine tab_in (o := o) (by show un + 3 + 1 < cLine; omega) (N3 (nd, o) (List.mem_append_right _ (.head _))).1 ht lnew hkp (hkp _ _ hKa) ?_
      intro tk4
      cases hg : getT (mergeT T1 (T2.take i)) t.1 with
      | none =>
        have hm : mergeT T1 (T2.take (i + 1)) = putT (mergeT T1 (T2.take i)) t.1 t.2 := by
          rw [mergeT, fold_take_succ _ _ _ _ _ hti]
          show addT (mergeT T1 (T2.take i)) t.1 t.2 = _
          unfold addT; rw [hg]
        dsimp only [Option.isSome]
        repeat' (first | (k_unfold; (try dsimp only)) | ((fail_if_success (with_reducible show wpAny _ _ (getMethod (Value.ref _) (Str.ofString "items") _) _ _ _)); (fail_if_success (with_reducible show wpAny _ _ (getMethod (Value.ref _) (Str.ofString "values") _) _ _ _)); (fail_if_success (with_reducible show wpAny _ _ (call (Value.builtin "dict.items") _) _ _ _)); (fail_if_success (with_reducible show wpAny _ _ (call (Value.builtin "dict.values") _) _ _ _)); (fail_if_success (with_reducible show wpAny _ _ (compareOp CmpOp.In (Value.ref _) (Value.ref _)) _ _ _)); (fail_if_success (with_reducible show wpAny _ _ (setItem (Value.ref _) (Value.ref _) _) _ _ _)); (fail_if_success (with_reducible show wpAny _ _ (subscriptTail _ _ (Value.ref _) (Value.ref _)) _ _ _)); (fail_if_success (with_reducible show wpAny _ _ (eval (Expr.Name (Str.ofString "k") _) (compEnvC _ _ _ _)) _ _ _)); (fail_if_success (with_reducible show wpAny _ _ (call (Value.builtin "list.append") _ _) _ _ _)); (fail_if_success (with_reducible show wpAny _ _ (subscriptTail _ (Expr.Slice _ _ _ _) (Value.ref _) (Value.ref _)) _ _ _)); (fail_if_success (with_reducible show wpAny _ _ (compareOp CmpOp.NotEq (Value.ref _) (Value.ref _)) _ _ _)); (fail_if_success (with_reducible show wpAny _ _ (compareOp CmpOp.Eq (Value.ref _) (Value.ref _)) _ _ _)); (fail_if_success (with_reducible show wpAny _ _ (compareOp CmpOp.Lt (Value.ref _) (Value.ref _)) _ _ _)); (fail_if_success (with_reducible show wpAny _ _ (call (Value.type "enumerate") _ _) _ _ _)); (fail_if_success (with_reducible show wpAny _ _ (exec (Stmt.While _ _ _ _) _) _ _ _)); (fail_if_success (with_reducible show wpAny _ _ (exec (Stmt.For _ _ _ _ _) _) _ _ _)); (fail_if_success (with_reducible show wpAny _ _ (call (Value.ref _) _ _) _ _ _)); (fail_if_success (with_reducible show wpAny _ _ (eval (Expr.ListComp _ _ _ _) _) _ _ _)); walk1; (try dsimp only)))
        refine tab_set (o := o) (by show un + 3 + 1 < cLine; omega) F3 N3 (fun p hp => hoff p hp nd (.head _)) (fun _ hp => nomatch hp) ht hkp hKa hlen ?_
        intro h4 tk4 o4 F4 N4 ht4
        rw [← hm] at ht4
        repeat' (first | (k_unfold; (try dsimp only)) | ((fail_if_success (with_reducible show wpAny _ _ (getMethod (Value.ref _) (Str.ofString "items") _) _ _ _)); (fail_if_success (with_reducible show wpAny _ _ (getMethod (Value.ref _) (Str.ofString "values") _) _ _ _)); (fail_if_success (with_reducible show wpAny _ _ (call (Value.builtin "dict.items") _) _ _ _)); (fail_if_success (with_reducible show wpAny _ _ (call (Value.builtin "dict.values") _) _ _ _)); (fail_if_success (with_reducible show wpAny _ _ (compareOp CmpOp.In (Value.ref _) (Value.ref _)) _ _ _)); (fail_if_success (with_reducible show wpAny _ _ (setItem (Value.ref _) (Value.ref _) _) _ _ _)); (fail_if_success (with_reducible show wpAny _ _ (subscriptTail _ _ (Value.ref _) (Value.ref _)) _ _ _)); (fail_if_success (with_reducible show wpAny _ _ (eval (Expr.Name (Str.ofString "k") _) (compEnvC _ _ _ _)) _ _ _)); (fail_if_success (with_reducible show wpAny _ _ (call (Value.builtin "list.append") _ _) _ _ _)); (fail_if_success (with_reducible show wpAny _ _ (subscriptTail _ (Expr.Slice _ _ _ _) (Value.ref _) (Value.ref _)) _ _ _)); (fail_if_success (with_reducible show wpAny _ _ (compareOp CmpOp.NotEq (Value.ref _) (Value.ref _)) _ _ _)); (fail_if_success (with_reducible show wpAny _ _ (compareOp CmpOp.Eq (Value.ref _) (Value.ref _)) _ _ _)); (fail_if_success (with_reducible show wpAny _ _ (compareOp CmpOp.Lt (Value.ref _) (Value.ref _)) _ _ _)); (fail_if_success (with_reducible show wpAny _ _ (call (Value.type "enumerate") _ _) _ _ _)); (fail_if_success (with_reducible show wpAny _ _ (exec (Stmt.While _ _ _ _) _) _ _ _)); (fail_if_success (with_reducible show wpAny _ _ (exec (Stmt.For _ _ _ _ _) _) _ _ _)); (fail_if_success (with_reducible show wpAny _ _ (call (Value.ref _) _ _) _ _ _)); (fail_if_success (with_reducible show wpAny _ _ (eval (Expr.ListComp _ _ _ _) _) _ _ _)); walk1; (try dsimp only)))
        refine' TurnQ.intro F4 N4 ?_ ⟨_, _, _, rfl, ht4, ?meq⟩
        case meq =>
          (funext y; first | rfl | ((try dsimp only); by_cases hh0 : y = (Str.ofString "caller"); (· subst hh0; rfl); by_cases hh1 : y = (Str.ofString "func"); (· subst hh1; rfl); by_cases hh2 : y = (Str.ofString "new_callers"); (· subst hh2; rfl); simp only [hh0, hh1, hh2, if_false]))
        · intro q hq
          rw [List.mem_singleton.mp hq]
          exact hnw (nd, o) (.head _)
      | some u =>
        have hm : mergeT T1 (T2.take (i + 1)) = putT (mergeT T1 (T2.take i)) t.1 (u + t.2) := by
          rw [mergeT, fold_take_succ _ _ _ _ _ hti]
          show addT (mergeT T1 (T2.take i)) t.1 t.2 = _
          unfold addT; rw [hg]
        dsimp only [Option.isSome]
        repeat' (first | (k_unfold; (try dsimp only)) | ((fail_if_success (with_reducible show wpAny _ _ (getMethod (Value.ref _) (Str.ofString "items") _) _ _ _)); (fail_if_success (with_reducible show wpAny _ _ (getMethod (Value.ref _) (Str.ofString "values") _) _ _ _)); (fail_if_success (with_reducible show wpAny _ _ (call (Value.builtin "dict.items") _) _ _ _)); (fail_if_success (with_reducible show wpAny _ _ (call (Value.builtin "dict.values") _) _ _ _)); (fail_if_success (with_reducible show wpAny _ _ (compareOp CmpOp.In (Value.ref _) (Value.ref _)) _ _ _)); (fail_if_success (with_reducible show wpAny _ _ (setItem (Value.ref _) (Value.ref _) _) _ _ _)); (fail_if_success (with_reducible show wpAny _ _ (subscriptTail _ _ (Value.ref _) (Value.ref _)) _ _ _)); (fail_if_success (with_reducible show wpAny _ _ (eval (Expr.Name (Str.ofString "k") _) (compEnvC _ _ _ _)) _ _ _)); (fail_if_success (with_reducible show wpAny _ _ (call (Value.builtin "list.append") _ _) _ _ _)); (fail_if_success (with_reducible show wpAny _ _ (subscriptTail _ (Expr.Slice _ _ _ _) (Value.ref _) (Value.ref _)) _ _ _)); (fail_if_success (with_reducible show wpAny _ _ (compareOp CmpOp.NotEq (Value.ref _) (Value.ref _)) _ _ _)); (fail_if_success (with_reducible show wpAny _ _ (compareOp CmpOp.Eq (Value.ref _) (Value.ref _)) _ _ _)); (fail_if_success (with_reducible show wpAny _ _ (compareOp CmpOp.Lt (Value.ref _) (Value.ref _)) _ _ _)); (fail_if_success (with_reducible show wpAny _ _ (call (Value.type "enumerate") _ _) _ _ _)); (fail_if_success (with_reducible show wpAny _ _ (exec (Stmt.While _ _ _ _) _) _ _ _)); (fail_if_success (with_reducible show wpAny _ _ (exec (Stmt.For _ _ _ _ _) _) _ _ _)); (fail_if_success (with_reducible show wpAny _ _ (call (Value.ref _) _ _) _ _ _)); (fail_if_success (with_reducible show wpAny _ _ (eval (Expr.ListComp _ _ _ _) _) _ _ _)); walk1; (try dsimp only)))
        refine tab_get (o := o) (by show un + 3 + 1 < cLine; omega) (N3 (nd, o) (List.mem_append_right _ (.head _))).1 ht hkp (hkp _ _ hKa) hg ?_
        intro tok5 tk5
        repeat' (first | (k_unfold; (try dsimp only)) | ((fail_if_success (with_reducible show wpAny _ _ (getMethod (Value.ref _) (Str.ofString "items") _) _ _ _)); (fail_if_success (with_reducible show wpAny _ _ (getMethod (Value.ref _) (Str.ofString "values") _) _ _ _)); (fail_if_success (with_reducible show wpAny _ _ (call (Value.builtin "dict.items") _) _ _ _)); (fail_if_success (with_reducible show wpAny _ _ (call (Value.builtin "dict.values") _) _ _ _)); (fail_if_success (with_reducible show wpAny _ _ (compareOp CmpOp.In (Value.ref _) (Value.ref _)) _ _ _)); (fail_if_success (with_reducible show wpAny _ _ (setItem (Value.ref _) (Value.ref _) _) _ _ _)); (fail_if_success (with_reducible show wpAny _ _ (subscriptTail _ _ (Value.ref _) (Value.ref _)) _ _ _)); (fail_if_success (with_reducible show wpAny _ _ (eval (Expr.Name (Str.ofString "k") _) (compEnvC _ _ _ _)) _ _ _)); (fail_if_success (with_reducible show wpAny _ _ (call (Value.builtin "list.append") _ _) _ _ _)); (fail_if_success (with_reducible show wpAny _ _ (subscriptTail _ (Expr.Slice _ _ _ _) (Value.ref _) (Value.ref _)) _ _ _)); (fail_if_success (with_reducible show wpAny _ _ (compareOp CmpOp.NotEq (Value.ref _) (Value.ref _)) _ _ _)); (fail_if_success (with_reducible show wpAny _ _ (compareOp CmpOp.Eq (Value.ref _) (Value.ref _)) _ _ _)); (fail_if_success (with_reducible show wpAny _ _ (compareOp CmpOp.Lt (Value.ref _) (Value.ref _)) _ _ _)); (fail_if_success (with_reducible show wpAny _ _ (call (Value.type "enumerate") _ _) _ _ _)); (fail_if_success (with_reducible show wpAny _ _ (exec (Stmt.While _ _ _ _) _) _ _ _)); (fail_if_success (with_reducible show wpAny _ _ (exec (Stmt.For _ _ _ _ _) _) _ _ _)); (fail_if_success (with_reducible show wpAny _ _ (call (Value.ref _) _ _) _ _ _)); (fail_if_success (with_reducible show wpAny _ _ (eval (Expr.ListComp _ _ _ _) _) _ _ _)); walk1; (try dsimp only)))
        refine tab_set (o := o) (by show un + 3 + 1 < cLine; omega) F3 N3 (fun p hp => hoff p hp nd (.head _)) (fun _ hp => nomatch hp) ht hkp hKa hlen ?_
        intro h4 tk4 o4 F4 N4 ht4
        rw [← hm] at ht4
        repeat' (first | (k_unfold; (try dsimp only)) | ((fail_if_success (with_reducible show wpAny _ _ (getMethod (Value.ref _) (Str.ofString "items") _) _ _ _)); (fail_if_success (with_reducible show wpAny _ _ (getMethod (Value.ref _) (Str.ofString "values") _) _ _ _)); (fail_if_success (with_reducible show wpAny _ _ (call (Value.builtin "dict.items") _) _ _ _)); (fail_if_success (with_reducible show wpAny _ _ (call (Value.builtin "dict.values") _) _ _ _)); (fail_if_success (with_reducible show wpAny _ _ (compareOp CmpOp.In (Value.ref _) (Value.ref _)) _ _ _)); (fail_if_success (with_reducible show wpAny _ _ (setItem (Value.ref _) (Value.ref _) _) _ _ _)); (fail_if_success (with_reducible show wpAny _ _ (subscriptTail _ _ (Value.ref _) (Value.ref _)) _ _ _)); (fail_if_success (with_reducible show wpAny _ _ (eval (Expr.Name (Str.ofString "k") _) (compEnvC _ _ _ _)) _ _ _)); (fail_if_success (with_reducible show wpAny _ _ (call (Value.builtin "list.append") _ _) _ _ _)); (fail_if_success (with_reducible show wpAny _ _ (subscriptTail _ (Expr.Slice _ _ _ _) (Value.ref _) (Value.ref _)) _ _ _)); (fail_if_success (with_reducible show wpAny _ _ (compareOp CmpOp.NotEq (Value.ref _) (Value.ref _)) _ _ _)); (fail_if_success (with_reducible show wpAny _ _ (compareOp CmpOp.Eq (Value.ref _) (Value.ref _)) _ _ _)); (fail_if_success (with_reducible show wpAny _ _ (compareOp CmpOp.Lt (Value.ref _) (Value.ref _)) _ _ _)); (fail_if_success (with_reducible show wpAny _ _ (call (Value.type "enumerate") _ _) _ _ _)); (fail_if_success (with_reducible show wpAny _ _ (exec (Stmt.While _ _ _ _) _) _ _ _)); (fail_if_success (with_reducible show wpAny _ _ (exec (Stmt.For _ _ _ _ _) _) _ _ _)); (fail_if_success (with_reducible show wpAny _ _ (call (Value.ref _) _ _) _ _ _)); (fail_if_success (with_reducible show wpAny _ _ (eval (Expr.ListComp _ _ _ _) _) _ _ _)); walk1; (try dsimp only)))
        refine' TurnQ.intro F4 N4 ?_ ⟨_, _, _, rfl, ht4, ?meq⟩
        case meq =>
          (funext y; first | rfl | ((try dsimp only); by_cases hh0 : y = (Str.ofString "caller"); (· subst hh0; rfl); by_cases hh1 : y = (Str.ofString "func"); (· subst hh1; rfl); by_cases hh2 : y = (Str.ofString "new_callers"); (· subst hh2; rfl); simp only [hh0, hh1, hh2, if_false]))
        · intro q hq
          rw [List.mem_singleton.mp hq]
          exact hnw (nd, o) (.head _)
    · rintro h3 tk3 m3 nx3 F3 N3 ⟨o, u1, u2, rfl, ht, rfl⟩
      rw [n2, List.take_length] at ht
      dsimp only [envOf] at F3 N3
      repeat' (first | (k_unfold; (try dsimp only)) | ((fail_if_success (with_reducible show wpAny _ _ (getMethod (Value.ref _) (Str.ofString "items") _) _ _ _)); (fail_if_success (with_reducible show wpAny _ _ (getMethod (Value.ref _) (Str.ofString "values") _) _ _ _)); (fail_if_success (with_reducible show wpAny _ _ (call (Value.builtin "dict.items") _) _ _ _)); (fail_if_success (with_reducible show wpAny _ _ (call (Value.builtin "dict.values") _) _ _ _)); (fail_if_success (with_reducible show wpAny _ _ (compareOp CmpOp.In (Value.ref _) (Value.ref _)) _ _ _)); (fail_if_success (with_reducible show wpAny _ _ (setItem (Value.ref _) (Value.ref _) _) _ _ _)); (fail_if_success (with_reducible show wpAny _ _ (subscriptTail _ _ (Value.ref _) (Value.ref _)) _ _ _)); (fail_if_success (with_reducible show wpAny _ _ (eval (Expr.Name (Str.ofString "k") _) (compEnvC _ _ _ _)) _ _ _)); (fail_if_success (with_reducible show wpAny _ _ (call (Value.builtin "list.append") _ _) _ _ _)); (fail_if_success (with_reducible show wpAny _ _ (subscriptTail _ (Expr.Slice _ _ _ _) (Value.ref _) (Value.ref _)) _ _ _)); (fail_if_success (with_reducible show wpAny _ _ (compareOp CmpOp.NotEq (Value.ref _) (Value.ref _)) _ _ _)); (fail_if_success (with_reducible show wpAny _ _ (compareOp CmpOp.Eq (Value.ref _) (Value.ref _)) _ _ _)); (fail_if_success (with_reducible show wpAny _ _ (compareOp CmpOp.Lt (Value.ref _) (Value.ref _)) _ _ _)); (fail_if_success (with_reducible show wpAny _ _ (call (Value.type "enumerate") _ _) _ _ _)); (fail_if_success (with_reducible show wpAny _ _ (exec (Stmt.While _ _ _ _) _) _ _ _)); (fail_if_success (with_reducible show wpAny _ _ (exec (Stmt.For _ _ _ _ _) _) _ _ _)); (fail_if_success (with_reducible show wpAny _ _ (call (Value.ref _) _ _) _ _ _)); (fail_if_success (with_reducible show wpAny _ _ (eval (Expr.ListComp _ _ _ _) _) _ _ _)); walk1; (try dsimp only)))
      exact h _ _ _ _ F3.keep (N3 _ (.head _)).2.2 lnew (N3 (nd, o) (.head _)).1 ht

theorem count_spec {prog : Program} {w : World} {dp un : Nat} {fr : Option (List Env)} {gd : Option (List Code)} {E : Value → Shared → Prop} {s : Shared} {Q : Value → Shared → Prop} {mean : ExcName → Option Value} {mg mb : Str → Option Value}
  (X0 : (hd.heap_39 w.params).In s.heap) (T0 : Top hd.view_39 LS mean mg mb s.heap) (hdp : dp + 20 < recursionLimit) (hun : un + 150 < cLine)
  {KP : List MK → Addr → Prop} {d1 : Addr} {o1 : Obj} {T1 : Tb} (h1 : s.heap.get? d1 = some o1) (l1 : (d1 == sysModules) = false)
  (x1 : TabO prog w KP o1 T1)
  (h : ∀ h' tk tok, s.heap.StaysIn h' → Q (.int (sumT T1) tok) { s with heap := h', toks := tk }) :
    wpAny (model prog w) (AA dp un fr gd) (call (.ref 46) [.ref d1]) Q E s := by
  refine' call_raw (K := hd.heap_39 w.params) (binds := [((Str.ofString "callers"), .ref d1)]) X0 T0.nolimit ?k6 ?k7 ?k8 ?k9 ?kB ?c2 ?c3 ?c4 ?c5 ?_
  (case k6 => k_is)
  (case k7 => k_is)
  (case k8 => first | (simp only [depth_deeper]; omega) | omega)
  (case k9 => first | exact BindsTo.of_eq rfl | exact binds_K X0 rfl (by k_is) rfl rfl rfl | exact binds_KW X0 rfl (by k_is) rfl rfl rfl (by k_is) rfl)
  (case kB => exact locs rfl)
  (case c2 => exact rfl)
  (case c3 => exact rfl)
  (case c4 => exact rfl)
  (case c5 => decide)
  intro h₁ F1
  (try dsimp only)
  k_fold
  have N1 : News s.heap s.heap.objs.size h₁ [] := News.nil
  obtain ⟨es1, ep1, r1, n1, g1⟩ := x1.raw h1
  repeat' (first | (k_unfold; (try dsimp only)) | ((fail_if_success (with_reducible show wpAny _ _ (getMethod (Value.ref _) (Str.ofString "items") _) _ _ _)); (fail_if_success (with_reducible show wpAny _ _ (getMethod (Value.ref _) (Str.ofString "values") _) _ _ _)); (fail_if_success (with_reducible show wpAny _ _ (call (Value.builtin "dict.items") _) _ _ _)); (fail_if_success (with_reducible show wpAny _ _ (call (Value.builtin "dict.values") _) _ _ _)); (fail_if_success (with_reducible show wpAny _ _ (compareOp CmpOp.In (Value.ref _) (Value.ref _)) _ _ _)); (fail_if_success (with_reducible show wpAny _ _ (setItem (Value.ref _) (Value.ref _) _) _ _ _)); (fail_if_success (with_reducible show wpAny _ _ (subscriptTail _ _ (Value.ref _) (Value.ref _)) _ _ _)); (fail_if_success (with_reducible show wpAny _ _ (eval (Expr.Name (Str.ofString "k") _) (compEnvC _ _ _ _)) _ _ _)); (fail_if_success (with_reducible show wpAny _ _ (call (Value.builtin "list.append") _ _) _ _ _)); (fail_if_success (with_reducible show wpAny _ _ (subscriptTail _ (Expr.Slice _ _ _ _) (Value.ref _) (Value.ref _)) _ _ _)); (fail_if_success (with_reducible show wpAny _ _ (compareOp CmpOp.NotEq (Value.ref _) (Value.ref _)) _ _ _)); (fail_if_success (with_reducible show wpAny _ _ (compareOp CmpOp.Eq (Value.ref _) (Value.ref _)) _ _ _)); (fail_if_success (with_reducible show wpAny _ _ (compareOp CmpOp.Lt (Value.ref _) (Value.ref _)) _ _ _)); (fail_if_success (with_reducible show wpAny _ _ (call (Value.type "enumerate") _ _) _ _ _)); (fail_if_success (with_reducible show wpAny _ _ (exec (Stmt.While _ _ _ _) _) _ _ _)); (fail_if_success (with_reducible show wpAny _ _ (exec (Stmt.For _ _ _ _ _) _) _ _ _)); (fail_if_success (with_reducible show wpAny _ _ (call (Value.ref _) _ _) _ _ _)); (fail_if_success (with_reducible show wpAny _ _ (eval (Expr.ListComp _ _ _ _) _) _ _ _)); walk1; (try dsimp only)))
  rename Fr _ _ _ _ => F2
  rename News _ _ _ _ => N2
  refine For_turns F2 ?_
  repeat' (first | (k_unfold; (try dsimp only)) | ((fail_if_success (with_reducible show wpAny _ _ (getMethod (Value.ref _) (Str.ofString "items") _) _ _ _)); (fail_if_success (with_reducible show wpAny _ _ (getMethod (Value.ref _) (Str.ofString "values") _) _ _ _)); (fail_if_success (with_reducible show wpAny _ _ (call (Value.builtin "dict.items") _) _ _ _)); (fail_if_success (with_reducible show wpAny _ _ (call (Value.builtin "dict.values") _) _ _ _)); (fail_if_success (with_reducible show wpAny _ _ (compareOp CmpOp.In (Value.ref _) (Value.ref _)) _ _ _)); (fail_if_success (with_reducible show wpAny _ _ (setItem (Value.ref _) (Value.ref _) _) _ _ _)); (fail_if_success (with_reducible show wpAny _ _ (subscriptTail _ _ (Value.ref _) (Value.ref _)) _ _ _)); (fail_if_success (with_reducible show wpAny _ _ (eval (Expr.Name (Str.ofString "k") _) (compEnvC _ _ _ _)) _ _ _)); (fail_if_success (with_reducible show wpAny _ _ (call (Value.builtin "list.append") _ _) _ _ _)); (fail_if_success (with_reducible show wpAny _ _ (subscriptTail _ (Expr.Slice _ _ _ _) (Value.ref _) (Value.ref _)) _ _ _)); (fail_if_success (with_reducible show wpAny _ _ (compareOp CmpOp.NotEq (Value.ref _) (Value.ref _)) _ _ _)); (fail_if_success (with_reducible show wpAny _ _ (compareOp CmpOp.Eq (Value.ref _) (Value.ref _)) _ _ _)); (fail_if_success (with_reducible show wpAny _ _ (compareOp CmpOp.Lt (Value.ref _) (Value.ref _)) _ _ _)); (fail_if_success (with_reducible show wpAny _ _ (call (Value.type "enumerate") _ _) _ _ _)); (fail_if_success (with_reducible show wpAny _ _ (exec (Stmt.While _ _ _ _) _) _ _ _)); (fail_if_success (with_reducible show wpAny _ _ (exec (Stmt.For _ _ _ _ _) _) _ _ _)); (fail_if_success (with_reducible show wpAny _ _ (call (Value.ref _) _ _) _ _ _)); (fail_if_success (with_reducible show wpAny _ _ (eval (Expr.ListComp _ _ _ _) _) _ _ _)); walk1; (try dsimp only)))
  refine getMethod_values (r1.at fun o e => F2.keep d1 o e) ?_
  repeat' (first | (k_unfold; (try dsimp only)) | ((fail_if_success (with_reducible show wpAny _ _ (getMethod (Value.ref _) (Str.ofString "items") _) _ _ _)); (fail_if_success (with_reducible show wpAny _ _ (getMethod (Value.ref _) (Str.ofString "values") _) _ _ _)); (fail_if_success (with_reducible show wpAny _ _ (call (Value.builtin "dict.items") _) _ _ _)); (fail_if_success (with_reducible show wpAny _ _ (call (Value.builtin "dict.values") _) _ _ _)); (fail_if_success (with_reducible show wpAny _ _ (compareOp CmpOp.In (Value.ref _) (Value.ref _)) _ _ _)); (fail_if_success (with_reducible show wpAny _ _ (setItem (Value.ref _) (Value.ref _) _) _ _ _)); (fail_if_success (with_reducible show wpAny _ _ (subscriptTail _ _ (Value.ref _) (Value.ref _)) _ _ _)); (fail_if_success (with_reducible show wpAny _ _ (eval (Expr.Name (Str.ofString "k") _) (compEnvC _ _ _ _)) _ _ _)); (fail_if_success (with_reducible show wpAny _ _ (call (Value.builtin "list.append") _ _) _ _ _)); (fail_if_success (with_reducible show wpAny _ _ (subscriptTail _ (Expr.Slice _ _ _ _) (Value.ref _) (Value.ref _)) _ _ _)); (fail_if_success (with_reducible show wpAny _ _ (compareOp CmpOp.NotEq (Value.ref _) (Value.ref _)) _ _ _)); (fail_if_success (with_reducible show wpAny _ _ (compareOp CmpOp.Eq (Value.ref _) (Value.ref _)) _ _ _)); (fail_if_success (with_reducible show wpAny _ _ (compareOp CmpOp.Lt (Value.ref _) (Value.ref _)) _ _ _)); (fail_if_success (with_reducible show wpAny _ _ (call (Value.type "enumerate") _ _) _ _ _)); (fail_if_success (with_reducible show wpAny _ _ (exec (Stmt.While _ _ _ _) _) _ _ _)); (fail_if_success (with_reducible show wpAny _ _ (exec (Stmt.For _ _ _ _ _) _) _ _ _)); (fail_if_success (with_reducible show wpAny _ _ (call (Value.ref _) _ _) _ _ _)); (fail_if_success (with_reducible show wpAny _ _ (eval (Expr.ListComp _ _ _ _) _) _ _ _)); walk1; (try dsimp only)))
  refine for_values rfl rfl rfl l1 r1 F2 N2 (fun i m nx => ∃ tok u1, nx = [] ∧
    m = fun y => if y = (Str.ofString "calls") then u1 else if y = (Str.ofString "nc") then some (.int (sumT (T1.take i)) tok) else List.lookup y [((Str.ofString "callers"), .ref d1)].reverse)
    ?_ [] (fun _ ha => nomatch ha) ?_ ?_
  · refine' ⟨_, none, rfl, ?meq⟩
    case meq =>
      (funext y; first | rfl | ((try dsimp only); by_cases hh0 : y = (Str.ofString "calls"); (· subst hh0; rfl); by_cases hh1 : y = (Str.ofString "nc"); (· subst hh1; rfl); simp only [hh0, hh1, if_false]))
  · rintro i en m₁ nx h3 tk3 own wr hen ⟨tok, u1, rfl, rfl⟩ hnw hown hoff F3 N3
    obtain ⟨t, a, tok', hti, hka, hva, hKa⟩ := g1 i en hen
    rw [hva] at F3
    dsimp only [envOf] at F3 N3
    k_fold
    repeat' (first | (k_unfold; (try dsimp only)) | ((fail_if_success (with_reducible show wpAny _ _ (getMethod (Value.ref _) (Str.ofString "items") _) _ _ _)); (fail_if_success (with_reducible show wpAny _ _ (getMethod (Value.ref _) (Str.ofString "values") _) _ _ _)); (fail_if_success (with_reducible show wpAny _ _ (call (Value.builtin "dict.items") _) _ _ _)); (fail_if_success (with_reducible show wpAny _ _ (call (Value.builtin "dict.values") _) _ _ _)); (fail_if_success (with_reducible show wpAny _ _ (compareOp CmpOp.In (Value.ref _) (Value.ref _)) _ _ _)); (fail_if_success (with_reducible show wpAny _ _ (setItem (Value.ref _) (Value.ref _) _) _ _ _)); (fail_if_success (with_reducible show wpAny _ _ (subscriptTail _ _ (Value.ref _) (Value.ref _)) _ _ _)); (fail_if_success (with_reducible show wpAny _ _ (eval (Expr.Name (Str.ofString "k") _) (compEnvC _ _ _ _)) _ _ _)); (fail_if_success (with_reducible show wpAny _ _ (call (Value.builtin "list.append") _ _) _ _ _)); (fail_if_success (with_reducible show wpAny _ _ (subscriptTail _ (Expr.Slice _ _ _ _) (Value.ref _) (Value.ref _)) _ _ _)); (fail_if_success (with_reducible show wpAny _ _ (compareOp CmpOp.NotEq (Value.ref _) (Value.ref _)) _ _ _)); (fail_if_success (with_reducible show wpAny _ _ (compareOp CmpOp.Eq (Value.ref _) (Value.ref _)) _ _ _)); (fail_if_success (with_reducible show wpAny _ _ (compareOp CmpOp.Lt (Value.ref _) (Value.ref _)) _ _ _)); (fail_if_success (with_reducible show wpAny _ _ (call (Value.type "enumerate") _ _) _ _ _)); (fail_if_success (with_reducible show wpAny _ _ (exec (Stmt.While _ _ _ _) _) _ _ _)); (fail_if_success (with_reducible show wpAny _ _ (exec (Stmt.For _ _ _ _ _) _) _ _ _)); (fail_if_success (with_reducible show wpAny _ _ (call (Value.ref _) _ _) _ _ _)); (fail_if_success (with_reducible show wpAny _ _ (eval (Expr.ListComp _ _ _ _) _) _ _ _)); walk1; (try dsimp only)))
    rename Fr _ _ _ _ => F4
    rename News _ _ _ _ => N4
    refine' TurnQ.intro F4 N4 ?_ ⟨_, _, rfl, ?meq⟩
    case meq =>
      have e : sumT (T1.take (i + 1)) = sumT (T1.take i) + t.2 := fold_take_succ _ _ _ _ _ hti
      rw [e]
      (funext y; first | rfl | ((try dsimp only); by_cases hh0 : y = (Str.ofString "calls"); (· subst hh0; rfl); by_cases hh1 : y = (Str.ofString "nc"); (· subst hh1; rfl); simp only [hh0, hh1, if_false]))
    · intro q hq; exact nomatch hq
  · rintro h3 tk3 m3 nx3 F3 N3 ⟨tok, u1, rfl, rfl⟩
    rw [n1, List.take_length] at F3
    dsimp only [envOf] at F3 N3
    repeat' (first | (k_unfold; (try dsimp only)) | ((fail_if_success (with_reducible show wpAny _ _ (getMethod (Value.ref _) (Str.ofString "items") _) _ _ _)); (fail_if_success (with_reducible show wpAny _ _ (getMethod (Value.ref _) (Str.ofString "values") _) _ _ _)); (fail_if_success (with_reducible show wpAny _ _ (call (Value.builtin "dict.items") _) _ _ _)); (fail_if_success (with_reducible show wpAny _ _ (call (Value.builtin "dict.values") _) _ _ _)); (fail_if_success (with_reducible show wpAny _ _ (compareOp CmpOp.In (Value.ref _) (Value.ref _)) _ _ _)); (fail_if_success (with_reducible show wpAny _ _ (setItem (Value.ref _) (Value.ref _) _) _ _ _)); (fail_if_success (with_reducible show wpAny _ _ (subscriptTail _ _ (Value.ref _) (Value.ref _)) _ _ _)); (fail_if_success (with_reducible show wpAny _ _ (eval (Expr.Name (Str.ofString "k") _) (compEnvC _ _ _ _)) _ _ _)); (fail_if_success (with_reducible show wpAny _ _ (call (Value.builtin "list.append") _ _) _ _ _)); (fail_if_success (with_reducible show wpAny _ _ (subscriptTail _ (Expr.Slice _ _ _ _) (Value.ref _) (Value.ref _)) _ _ _)); (fail_if_success (with_reducible show wpAny _ _ (compareOp CmpOp.NotEq (Value.ref _) (Value.ref _)) _ _ _)); (fail_if_success (with_reducible show wpAny _ _ (compareOp CmpOp.Eq (Value.ref _) (Value.ref _)) _ _ _)); (fail_if_success (with_reducible show wpAny _ _ (compareOp CmpOp.Lt (Value.ref _) (Value.ref _)) _ _ _)); (fail_if_success (with_reducible show wpAny _ _ (call (Value.type "enumerate") _ _) _ _ _)); (fail_if_success (with_reducible show wpAny _ _ (exec (Stmt.While _ _ _ _) _) _ _ _)); (fail_if_success (with_reducible show wpAny _ _ (exec (Stmt.For _ _ _ _ _) _) _ _ _)); (fail_if_success (with_reducible show wpAny _ _ (call (Value.ref _) _ _) _ _ _)); (fail_if_success (with_reducible show wpAny _ _ (eval (Expr.ListComp _ _ _ _) _) _ _ _)); walk1; (try dsimp only)))
    exact h _ _ _ F3.keep
end Mine
end TAdd
section TDic
set_option autoImplicit false
namespace Mine
theorem keys_miss_list : typeLookup (.type "list") "keys" = pure none := am_miss_of_fast (by decide +kernel)

theorem getAttr?_miss_list {prog : Program} {w : World} {A : Around} {E : Value → Shared → Prop} {s : Shared} {a : Addr} {o : Obj} {xs : Array Value} {k : Nat} {name : Str} {Q : Option Value → Shared → Prop}
    (hx : s.heap.get? a = some o) (hc : o.cls = .type "list") (hdat : o.data = .seq xs k) (hd : o.dict = none) (hmiss : typeLookup (.type "list") name = pure none) (hname : (["__module__", "__name__", "__qualname__", "__doc__", "__annotations__"] : List Str).contains name = false) (hA : A.handled = none)
    (h : ∀ h' tk, (∀ b ob, s.heap.get? b = some ob → h'.get? b = some ob) → Q none { s with heap := h', toks := tk }) (hsz : name.length + 100 ≤ sizeLine := by size_fits) :
    wpAny (model prog w) A (getAttr? (.ref a) name) Q E s := by
  obtain ⟨c, dct, dat, sl⟩ := o
  simp only at hc hdat hd
  subst hc hdat hd
  obtain ⟨hp, g, d, tk, os⟩ := s
  have hT : ∀ tk', (⟨hp, g, d, tk', os⟩ : Shared).TypeIs (.ref a) "list" := fun _ => ⟨_, hx, rfl⟩
  have f1 := sub_AttributeError
  have f3 := PySem.F.slot_list_getattribute.lookup
  have f4 := PySem.F.slot_list_getattribute.bind (.ref a)
  have f5 := am_list_getattr_none
  unfold getAttr? getAttrBy? getAttrBy
  repeat (any_goals (first | assumption | exact hT _ | ((with_reducible show wpAny _ _ (call (Value.builtin "list.__getattribute__") _ _) _ _ _); refine call_meets PySem.F.slot_list_getattribute (hT _) am_entry_list_getattribute (PySem.F.args_list_getattribute_2 _ _) (meets_getattribute_miss_list a xs k sl name _ hmiss hname hsz) ⟨hx, hA, fun h' tk' e hx' => ?_⟩) | wp_step))
  obtain ⟨t', u', he⟩ := hx'.there
  have hin : ∀ tk'', (⟨h', g, d, tk'', os⟩ : Shared).TypeIs (.ref e) "AttributeError" := fun _ => ⟨_, he, rfl⟩
  show wpAny _ _ (getattributeRaised _ _ _ _ _ _ _) _ _ _
  unfold getattributeRaised
  repeat (any_goals (first | assumption | exact hin _ | wp_step))
  exact h _ _ hx'.keeps

/-! min and max of a pair -/
section
variable {prog : Program} {w : World} {A : Around} {E : Value → Shared → Prop} {s : Shared}
theorem pair_kept {hp h' : Heap} {oI : Obj} (hk : ∀ b o, b ∉ [hp.objs.size] → (hp.push oI).get? b = some o → h'.get? b = some o) : ∀ b o, hp.get? b = some o → h'.get? b = some o := fun b o e => by
  refine hk b o (fun hm => ?_) (Heap.get?_push_of_some _ e)
  rcases List.mem_cons.mp hm with e1 | hm
  · exact absurd (e1 ▸ Heap.lt_size e) (Nat.lt_irrefl _)
  · cases hm

theorem min_pair {T : Addr} {a b : Int} {t u : Tok} {Q : Value → Shared → Prop} (hh : A.handled = none) (hT : s.heap.IsTuple T #[.int a t, .int b u])
    (h : ∀ tok h' tk, (∀ b o, s.heap.get? b = some o → h'.get? b = some o) → Q (.int (min a b) tok) { s with heap := h', toks := tk }) :
    wpAny (model prog w) A (call (.builtin "min") [.ref T]) Q E s := by
  obtain ⟨oT, hoT, _⟩ := id hT
  have hne : T ≠ s.heap.objs.size := Nat.ne_of_lt (Heap.lt_size hoT)
  have hT' : s.heap.IsTuple T (intItems #[(a, t), (b, u)]) := by simpa [intItems] using hT
  refine call_min_walk (wpAny_pyIter_tuple hT' ?_)
  refine ⟨_, _, _, _, _, _, _, rfl, Walks.tuple (A := A.in1) hh s.heap.objs.size T hne (intItems #[(a, t), (b, u)]), ⟨⟨_, Heap.get?_push_size _ rfl, rfl, rfl⟩, hT'.at fun o e => Heap.get?_push_of_some _ e⟩, ?_, by simp [intItems],
    CmpOf.ints_lt (numAt #[(a, t), (b, u)]) (fun _ _ => intItems_at), fun v h' tk hP hk => ?_⟩
  · intro b hb
    show b < (s.heap.push _).objs.size
    rw [Heap.size_push]
    rcases List.mem_cons.mp hb with rfl | hb
    · exact Nat.lt_succ_self _
    · rw [List.mem_singleton.mp hb]; exact Nat.lt_succ_of_lt (Heap.lt_size hoT)
  · have hv : ∃ tok, v = .int (min a b) tok := by
      by_cases hab : b < a
      · have : argBest (fun i j => decide (numAt #[(a, t), (b, u)] i < numAt #[(a, t), (b, u)] j)) 1 = 1 := by simp [argBest, numAt, hab]
        simp [intItems, this] at hP
        exact ⟨u, by rw [← hP]; congr 1; omega⟩
      · have : argBest (fun i j => decide (numAt #[(a, t), (b, u)] i < numAt #[(a, t), (b, u)] j)) 1 = 0 := by simp [argBest, numAt, hab]
        simp [intItems, this] at hP
        exact ⟨t, by rw [← hP]; congr 1; omega⟩
    obtain ⟨tok, rfl⟩ := hv
    exact h tok h' tk (pair_kept hk)

theorem max_pair {T : Addr} {a b : Int} {t u : Tok} {Q : Value → Shared → Prop} (hh : A.handled = none) (hT : s.heap.IsTuple T #[.int a t, .int b u])
    (h : ∀ tok h' tk, (∀ b o, s.heap.get? b = some o → h'.get? b = some o) → Q (.int (max a b) tok) { s with heap := h', toks := tk }) :
    wpAny (model prog w) A (call (.builtin "max") [.ref T]) Q E s := by
  obtain ⟨oT, hoT, _⟩ := id hT
  have hne : T ≠ s.heap.objs.size := Nat.ne_of_lt (Heap.lt_size hoT)
  have hT' : s.heap.IsTuple T (intItems #[(a, t), (b, u)]) := by simpa [intItems] using hT
  refine call_max_walk (wpAny_pyIter_tuple hT' ?_)
  refine ⟨_, _, _, _, _, _, _, rfl, Walks.tuple (A := A.in1) hh s.heap.objs.size T hne (intItems #[(a, t), (b, u)]), ⟨⟨_, Heap.get?_push_size _ rfl, rfl, rfl⟩, hT'.at fun o e => Heap.get?_push_of_some _ e⟩, ?_, by simp [intItems],
    CmpOf.ints_gt (numAt #[(a, t), (b, u)]) (fun _ _ => intItems_at), fun v h' tk hP hk => ?_⟩
  · intro b hb
    show b < (s.heap.push _).objs.size
    rw [Heap.size_push]
    rcases List.mem_cons.mp hb with rfl | hb
    · exact Nat.lt_succ_self _
    · rw [List.mem_singleton.mp hb]; exact Nat.lt_succ_of_lt (Heap.lt_size hoT)
  · have hv : ∃ tok, v = .int (max a b) tok := by
      by_cases hab : b > a
      · have : argBest (fun i j => decide (numAt #[(a, t), (b, u)] i > numAt #[(a, t), (b, u)] j)) 1 = 1 := by simp [argBest, numAt, hab]
        simp [intItems, this] at hP
        exact ⟨u, by rw [← hP]; congr 1; omega⟩
      · have : argBest (fun i j => decide (numAt #[(a, t), (b, u)] i > numAt #[(a, t), (b, u)] j)) 1 = 0 := by simp [argBest, numAt, hab]
        simp [intItems, this] at hP
        exact ⟨t, by rw [← hP]; congr 1; omega⟩
    obtain ⟨tok, rfl⟩ := hv
    exact h tok h' tk (pair_kept hk)

/-! storing at the bottom; a dict of pairs -/
variable {KP : List MK → Addr → Prop} {o : Obj} {T : Tb} {d a : Addr} {k : List MK}
theorem tab_dictSet {v : Int} {tok : Tok} {Q : Unit → Shared → Prop} (hu : A.units < cLine) (ho : s.heap.get? d = some o) (x : TabO prog w KP o T)
    (hk : ∀ ks b, KP ks b → IsTupleKey (mix prog w) s.heap ks b) (hka : KP k a) (hsz : T.length ≤ sizeLine)
    (h : ∀ h' tk o', h'.get? d = some o' → Heap.SameBut d s.heap h' → TabO prog w KP o' (putT T k v) → Q () { s with heap := h', toks := tk }) :
    wpAny (model prog w) A (dictSet d (.ref a) (.int v tok)) Q E s := by
  obtain ⟨xs, hD, hr⟩ := x
  refine wpAny_dictSet_heap (hsz := by rw [hr.length]; exact hsz) (knd := tupleKind (mix prog w)) hu (hk _ _ hka) (dob_of s.heap ho hD hk hr) fun h' hm' hs => ?_
  obtain ⟨o', es', ep', ho', hc', hd', he', _, hn'⟩ := hm'
  exact h h' _ o' ho' hs ⟨_, ⟨hc', es', ep', hd', he', hn'⟩, rows_stored hr hka v tok⟩

theorem plain_dul : plainId "dict.update.loop" = true := by decide +kernel
theorem entry_dul : entryFor table "dict.update.loop" = some Builtin.«dict.update.loop» := entryFor_of_tree (by kernel_rfl)

def PairAt (g : Heap) (KP : List MK → Addr → Prop) (v : Value) (t : List MK × Int) : Prop := ∃ P ka tok, v = .ref P ∧ g.IsTuple P #[.ref ka, .int t.2 tok] ∧ KP t.1 ka
def dictT (T : Tb) : Tb := T.foldl (fun T t => putT T t.1 t.2) []

theorem codeAny_dul {R : Result → Shared → Prop} {g : Heap} {I l : Addr} {vs : List Value} (hh : A.handled = none) (hu : A.units + 1 < cLine) (hgI : g.get? I = none) (hgd : g.get? d = none) (hId : I ≠ d) (hl : g.IsList l vs.toArray)
    (hKP : ∀ ks b, KP ks b → IsTupleKey (mix prog w) g ks b) (hall : All2 (PairAt g KP) vs T) (hsz : T.length ≤ sizeLine) :
    ∀ (k i : Nat) (s : Shared) (o : Obj), vs.length - i = k → i ≤ vs.length → (∀ b ob, g.get? b = some ob → s.heap.get? b = some ob) → s.heap.IsListIter I l i → s.heap.get? d = some o →
      TabO prog w KP o ((T.take i).foldl (fun T t => putT T t.1 t.2) []) →
      (∀ h' tk o', (∀ b ob, g.get? b = some ob → h'.get? b = some ob) → (∀ b ob, b ≠ I → b ≠ d → s.heap.get? b = some ob → h'.get? b = some ob) → h'.get? d = some o' → TabO prog w KP o' (dictT T) → R (.ok (.ret .none)) { s with heap := h', toks := tk }) →
      codeAny (model prog w) A (.builtin "dict.update.loop" ⟨[.ref d, .ref I, rawInt i, .none], []⟩) R s := by
  have hlI : l ≠ I := by
    obtain ⟨ol, hol, _⟩ := hl
    rintro rfl
    rw [hgI] at hol; cases hol
  have hszA : vs.toArray.size = vs.length := by simp
  have W := Walks.list (prog := prog) (w := w) (A := A.in1) hh I l hlI vs.toArray
  intro k
  induction k with
  | zero =>
    intro i s o hk hi hg hit hd ht hR
    have hin : i = vs.length := by omega
    refine codeAny_builtin entry_dul ?_
    rw [Around.under_plainId plain_dul _]
    show wpAny _ A.in1 (pyNext (.ref I) >>= _) _ _ s
    refine wpAny_bind (W.done s _ _ (by rw [hszA, ← hin]; exact ⟨hit, hl.at fun o e => hg l o e⟩) fun h' tk hk' => ?_)
    show wpAny _ A.in1 (Builtin.Dict.addKeywords d [] >>= _) _ _ _
    have hdI : d ∉ [I] := fun hm => hId (List.mem_singleton.mp hm).symm
    refine wpAny_bind (wpAny_pure (wpAny_pure (hR h' tk o (fun b ob e => hk' b ob ?_ (hg b ob e)) (fun b ob hb _ e => hk' b ob ?_ e) (hk' d o hdI hd) ?_)))
    · intro hm
      rw [List.mem_singleton.mp hm, hgI] at e; cases e
    · intro hm
      exact hb (List.mem_singleton.mp hm)
    · rw [hin, hall.length, List.take_length] at ht; exact ht
  | succ k ih =>
    intro i s o hk hi hg hit hd ht hR
    have hlt : i < vs.length := by omega
    have hdI : d ∉ [I] := fun hm => hId (List.mem_singleton.mp hm).symm
    refine codeAny_builtin entry_dul ?_
    rw [Around.under_plainId plain_dul _]
    show wpAny _ A.in1 (pyNext (.ref I) >>= _) _ _ s
    refine wpAny_bind (W.item i s _ _ (by rw [hszA]; exact hlt) ⟨hit, hl.at fun o e => hg l o e⟩ fun v h₁ tk₁ hP hst hk₁ => ?_)
    obtain ⟨t, hti, P, ka, tok, rfl, hT, hka⟩ := hall.get? (i := i) (a := v) (by simpa using hP)
    have hg₁ : ∀ b ob, g.get? b = some ob → h₁.get? b = some ob := fun b ob e => hk₁ b ob (fun hm => by rw [List.mem_singleton.mp hm, hgI] at e; cases e) (hg b ob e)
    have hd₁ := hk₁ d o hdI hd
    have hT₁ := hT.at fun o e => hg₁ P o e
    obtain ⟨oP, hoP, hcP, nP, hdP⟩ := id hT₁
    dsimp only
    refine wpAny_bind (wpAny_holding ?_)
    refine wpAny_bind (wpAny_tryCatch ?_)
    unfold Builtin.Dict.pairItems
    refine wpAny_bind (wpAny_typeOf (T := "tuple") ⟨oP, hoP, hcP⟩ ?_)
    rw [if_pos (by decide)]
    refine wpAny_bind (wpAny_seqItems hoP hdP (wpAny_pure ?_))
    show wpAny _ A.in1 (holding [.ref ka, .int t.2 tok] (dictSet d (.ref ka) (.int t.2 tok))) _ _ _
    have hlen : ((T.take i).foldl (fun T t => putT T t.1 t.2) []).length ≤ sizeLine := by
      have e1 := fold_length_le putT_length_le (T.take i) []
      have e2 : (T.take i).length ≤ T.length := by rw [List.length_take]; omega
      simp only [List.length_nil] at e1
      omega
    refine (wpAny_holding (tab_dictSet (s := { s with heap := h₁, toks := tk₁ }) hu hd₁ ht (fun ks b hb => IsTupleKey.mono' hg₁ (hKP ks b hb)) hka hlen fun h₂ tk₂ o₂ ho₂ hs₂ ht₂ => ?_))
    have e : rawInt ((i : Int) + 1) = rawInt ((i + 1 : Nat) : Int) := by rw [Int.natCast_add]; rfl
    show wpAny _ A.in1 (again (.builtin "dict.update.loop" ⟨[.ref d, .ref I, rawInt ((i : Int) + 1), .none], []⟩)) _ _ _
    rw [e]
    have hk₂ : ∀ b ob, b ≠ d → h₁.get? b = some ob → h₂.get? b = some ob := fun b ob hb x => hs₂.extBut b ob hb x
    refine wpAny_pure ⟨plainId_quiet plain_dul _, ih (i + 1) _ o₂ (by omega) hlt (fun b ob x => hk₂ b ob ?_ (hg₁ b ob x)) (hst.1.at fun o x => hk₂ I o hId x) ho₂ ?_ fun h' tk o' hg' hk' ho' ht' => ?_⟩
    · rintro rfl
      rw [hgd] at x; cases x
    · rw [fold_take_succ _ _ _ _ _ hti]; exact ht₂
    · refine hR h' tk o' hg' (fun b ob hb hbd x => hk' b ob hb hbd (hk₂ b ob hbd (hk₁ b ob (fun hm => hb (List.mem_singleton.mp hm)) x))) ho' ht'

theorem call_dict_pairs {l : Addr} {ol : Obj} {vs : List Value} {n : Nat} {Q : Value → Shared → Prop} (hh : A.handled = none) (hu : A.units + 10 < cLine) (hol : s.heap.get? l = some ol) (hlc : ol.cls = .type "list") (hld : ol.dict = none) (hldat : ol.data = .seq vs.toArray n)
    (hbig : (s.heap.objs.size == sysModules) = false) (hKP : ∀ ks b, KP ks b → IsTupleKey (mix prog w) s.heap ks b) (hall : All2 (PairAt s.heap KP) vs T) (hsz : T.length ≤ sizeLine)
    (h : ∀ d h' tk o', s.heap.StaysIn h' → s.heap.get? d = none → (d == sysModules) = false → h'.get? d = some o' → TabO prog w KP o' (dictT T) → Q (.ref d) { s with heap := h', toks := tk }) :
    wpAny (model prog w) A (call (.type "dict") [.ref l]) Q E s := by
  have hl : s.heap.IsList l vs.toArray := ⟨ol, hol, hlc, n, hldat⟩
  refine callType_codes (Q₁ := fun obj s₁ => obj = .ref s.heap.objs.size ∧ s₁ = { s with heap := s.heap.push { cls := .type "dict", data := .dict #[] } }) PySem.F.kt_called_dict (PySem.F.kt_typeCall_dict_1 _) PySem.F.entry_dict_init (kt_code_dict_new _ ⟨rfl, rfl⟩) ?_
  rintro obj s₁ ⟨rfl, rfl⟩
  have hold : ∀ b ob, s.heap.get? b = some ob → (s.heap.push { cls := .type "dict", data := .dict #[] }).get? b = some ob := fun b ob e => Heap.get?_push_of_some _ e
  have hnone : s.heap.get? s.heap.objs.size = none := Heap.get?_none_of_le (Nat.le_refl _)
  have hd0 : (s.heap.push { cls := .type "dict", data := .dict #[] }).get? s.heap.objs.size = some { cls := .type "dict", data := .dict #[] } := Heap.get?_push_size _ rfl
  have hnew : RawD (s.heap.push { cls := .type "dict", data := .dict #[] }) s.heap.objs.size #[] 0 := ⟨_, hd0, ⟨rfl, rfl, rfl⟩, rfl⟩
  have hl1 : (s.heap.push { cls := .type "dict", data := .dict #[] }).get? l = some ol := hold _ _ hol
  refine ⟨hnew.typeIs, PySem.F.args_dict_init_2 _ _, ?_⟩
  unfold Builtin.«dict.__init__»
  refine wpAny_bind ?_
  unfold Builtin.Dict.selfAndRest
  refine wpAny_bind (wpAny_notOrdered_dict hnew.typeIs ?_)
  show wpAny _ _ (pure (s.heap.objs.size, [Value.ref l])) _ _ _
  refine wpAny_pure ?_
  show wpAny _ _ (Builtin.Dict.updateFrom "dict.__init__" s.heap.objs.size (.ref l) [] .none) _ _ _
  unfold Builtin.Dict.updateFrom
  refine wpAny_bind (wpAny_typeOf (T := "list") ⟨ol, hl1, hlc⟩ ?_)
  rw [if_pos (by decide)]
  refine wpAny_bind (getAttr?_miss_list hl1 hlc hldat hld keys_miss_list (by decide +kernel) hh ?_)
  intro h₂ tk₂ hk₂
  have hl2 : h₂.get? l = some ol := hk₂ _ _ hl1
  have hil2 : h₂.IsList l vs.toArray := ⟨ol, hl2, hlc, n, hldat⟩
  have hd2 := hk₂ _ _ hd0
  have hold2 : ∀ b ob, s.heap.get? b = some ob → h₂.get? b = some ob := fun b ob e => hk₂ b ob (hold b ob e)
  rw [if_pos (show (Option.isNone (none : Option Value)) = true from rfl)]
  refine wpAny_bind (wpAny_rule (wpAny_bind (wpAny_pyIter_list (s := { s with heap := h₂, toks := tk₂ }) hil2 ?_)))
  have hIn : s.heap.get? h₂.objs.size = none := by
    cases e : s.heap.get? h₂.objs.size with
    | none => rfl
    | some ob => exact absurd (Heap.lt_size (hold2 _ _ e)) (Nat.lt_irrefl _)
  have hId : h₂.objs.size ≠ s.heap.objs.size := Nat.ne_of_gt (Heap.lt_size hd2)
  refine wpAny_pure ⟨plainId_quiet plain_dul _, codeAny_dul (A := A.in1) (g := s.heap) (vs := vs) (KP := KP) (T := T) hh (by show A.units + 1 + 1 < cLine; omega) hIn hnone hId hl hKP hall hsz vs.length 0 _ _ rfl (Nat.zero_le _)
    (fun b ob e => Heap.get?_push_of_some _ (hold2 b ob e)) ⟨_, Heap.get?_push_size _ rfl, rfl, rfl⟩ (Heap.get?_push_of_some _ hd2) ⟨[], ⟨⟨rfl, rfl, rfl⟩, _, _, rfl, rfl, List.nodup_nil⟩, .nil⟩ ?_⟩
  intro h' tk o' hg' _ ho' ht'
  exact ⟨rfl, h _ _ _ _ hg' hnone hbig ho' ht'⟩

theorem meets_len (d : Addr) (es : Array DictEntry) (ep : Nat) (hd : (d == sysModules) = false) :
    MeetsIn prog w (Builtin.«dict.__len__» ⟨[.ref d], []⟩) (fun _ R s => RawD s.heap d es ep ∧ R (.ok (.ret (.int es.size s.toks))) { s with toks := s.toks + 1 }) :=
  .of_wp fun A R s ⟨hm, h⟩ => by
    obtain ⟨o, ho, hc, hdat⟩ := hm
    show wpAny _ _ (dictSize d >>= _) _ _ s
    unfold dictSize
    refine wpAny_bind (wpAny_bind (wpAny_dictEntries ho hdat (wpAny_pure ?_)))
    show wpAny _ _ (Builtin.Dict.pendingCount d >>= _) _ _ s
    refine wpAny_bind (wpAny_pendingCount_other hd ?_)
    refine wpAny_ret_mkInt ?_
    rw [Nat.add_zero]; exact h

theorem raw_len {es : Array DictEntry} {ep : Nat} {Q : Value → Shared → Prop} (hd : (d == sysModules) = false) (hm : RawD s.heap d es ep) (hfit : (es.size : Int) < 2 ^ 63)
    (h : ∀ tok tk, Q (.int es.size tok) { s with toks := tk }) : wpAny (model prog w) A (call (.builtin "len") [.ref d]) Q E s := by
  refine Calls.call_function_entry kind_len plain_len entry_len (args_len1 _) ?_
  unfold Builtin.«len»
  refine wpAny_bind (m := oneArg "len" _) (wpAny_pure ?_)
  refine wpAny_bind (m := callSpecial? (.ref d) (Str.ofString "__len__")) (wpAny_callSpecial?_slot (name := Str.ofString "__len__") hm.typeIs PySem.F.slot_dict_len
    (call_meetsIn PySem.F.slot_dict_len hm.typeIs PySem.F.entry_dict_len (PySem.F.args_dict_len_1 _) (meets_len d es ep hd) ⟨hm, ?_⟩))
  show wpAny _ _ _ _ _ { s with toks := s.toks + 1 }
  refine wpAny_bind (wpAny_holding (wpAny_pure ?_))
  refine wpAny_bind (wpAny_letGo ?_)
  show wpAny _ _ (if ((es.size : Nat) : Int) < 0 then _ else _) _ _ _
  rw [if_neg (by omega)]
  show wpAny _ _ (if ((es.size : Nat) : Int) ≥ 2 ^ 63 then _ else _) _ _ _
  rw [if_neg (by omega)]
  exact wpAny_bind (wpAny_mkInt (wpAny_pure ⟨_, rfl, h _ _⟩))

theorem tab_len {Q : Value → Shared → Prop} (hd : (d == sysModules) = false) (ho : s.heap.get? d = some o) (x : TabO prog w KP o T) (hfit : T.length < 2 ^ 63)
    (h : ∀ tok tk, Q (.int T.length tok) { s with toks := tk }) : wpAny (model prog w) A (call (.builtin "len") [.ref d]) Q E s := by
  obtain ⟨es, ep, hr, hz, _⟩ := x.raw ho
  refine raw_len hd hr (by rw [hz]; omega) ?_
  rw [hz]
  exact h
end
/-- the ledger bears the key -/
def KeyIn (prog : Program) (w : World) (nx : List (Addr × Obj)) (ks : List MK) (a : Addr) : Prop := ∃ ok, (a, ok) ∈ nx ∧ TupKeyObj (mix prog w) ks ok
/-- the ledger bears the pair of a key and a number -/
def PairIn (prog : Program) (w : World) (nx : List (Addr × Obj)) (v : Value) (t : List MK × Int) : Prop :=
  ∃ P ka tok oP n, v = .ref P ∧ (P, oP) ∈ nx ∧ oP.cls = .type "tuple" ∧ oP.data = .seq #[.ref ka, .int t.2 tok] n ∧ KeyIn prog w nx t.1 ka
/-- the ledger bears the table -/
def RowIn (prog : Program) (w : World) (nx : List (Addr × Obj)) (v : Value) (T : Tb) : Prop :=
  ∃ d o, v = .ref d ∧ (d, o) ∈ nx ∧ (d == sysModules) = false ∧ TabO prog w (KeyIn prog w nx) o T
section
variable {prog : Program} {w : World} {nx nx' : List (Addr × Obj)} {h₀ h : Heap} {L : Addr}
theorem KeyIn.mono (hs : ∀ q ∈ nx, q ∈ nx') {ks : List MK} {a : Addr} (x : KeyIn prog w nx ks a) : KeyIn prog w nx' ks a := let ⟨ok, hm, t⟩ := x; ⟨ok, hs _ hm, t⟩
theorem PairIn.mono (hs : ∀ q ∈ nx, q ∈ nx') {v : Value} {t : List MK × Int} (x : PairIn prog w nx v t) : PairIn prog w nx' v t :=
  let ⟨P, ka, tok, oP, n, h1, h2, h3, h4, h5⟩ := x; ⟨P, ka, tok, oP, n, h1, hs _ h2, h3, h4, h5.mono hs⟩
theorem RowIn.mono (hs : ∀ q ∈ nx, q ∈ nx') {v : Value} {T : Tb} (x : RowIn prog w nx v T) : RowIn prog w nx' v T :=
  let ⟨d, o, h1, h2, h3, h4⟩ := x; ⟨d, o, h1, hs _ h2, h3, h4.mono fun _ _ k => k.mono hs⟩
theorem KeyIn.key (N : News h₀ L h nx) {ks : List MK} {a : Addr} (x : KeyIn prog w nx ks a) : IsTupleKey (mix prog w) h ks a := let ⟨_, hm, t⟩ := x; t.key (N _ hm).1
theorem PairIn.at (N : News h₀ L h nx) {v : Value} {t : List MK × Int} (x : PairIn prog w nx v t) : PairAt h (KeyIn prog w nx) v t :=
  let ⟨P, ka, tok, oP, n, h1, h2, h3, h4, h5⟩ := x; ⟨P, ka, tok, h1, ⟨oP, (N _ h2).1, h3, n, h4⟩, h5⟩
end
end Mine
end TDic
section TEqd
set_option autoImplicit false
namespace Mine
/-- the same table -/
def SameT (T₁ T₂ : Tb) : Prop := T₁.length = T₂.length ∧ ∀ t ∈ T₁, getT T₂ t.1 = some t.2

section
variable {prog : Program} {w : World} {A : Around} {E : Value → Shared → Prop} {s : Shared} {KP₁ KP₂ : List MK → Addr → Prop} {o₁ o₂ : Obj} {T₁ T₂ : Tb} {a b : Addr}

theorem same_pairs {nm : String} {Q : Bool → Shared → Prop} (ha : (a == sysModules) = false) (hb : (b == sysModules) = false)
    (h₁ : s.heap.get? a = some o₁) (h₂ : s.heap.get? b = some o₂) (x₁ : TabO prog w KP₁ o₁ T₁) (x₂ : TabO prog w KP₂ o₂ T₂)
    (hk₁ : ∀ ks c, KP₁ ks c → IsTupleKey (mix prog w) s.heap ks c) (hk₂ : ∀ ks c, KP₂ ks c → IsTupleKey (mix prog w) s.heap ks c) (hu : A.units < cLine)
    (hs : SameT T₁ T₂) (h : Q true s) : wpAny (model prog w) A (Builtin.Dict.samePairs nm a b) Q E s := by
  obtain ⟨xs, ⟨_, es, ep, hda, hea, hna⟩, hra⟩ := x₁
  obtain ⟨ys, ⟨_, es', ep', hdb, heb, hnb⟩, hrb⟩ := x₂
  have hla : T₁.length = es.size := by rw [← hra.length, ← Array.length_toList, hea, List.length_map]
  have hlb : T₂.length = es'.size := by rw [← hrb.length, ← Array.length_toList, heb, List.length_map]
  have hsz : es.size = es'.size := by rw [← hla, ← hlb, hs.1]
  have his : ∀ y ∈ ys, IsTupleKey (mix prog w) s.heap y.1 y.2.1 := fun y hy => by
    obtain ⟨i, hi⟩ := List.mem_iff_getElem?.mp hy
    obtain ⟨t, _, r⟩ := hrb.get? hi
    exact hk₂ _ _ r.2.2
  unfold Builtin.Dict.samePairs Builtin.Dict.showsAll
  rw [if_neg (show ¬ (a == sysModules) = true by rw [ha]; exact Bool.false_ne_true), if_neg (show ¬ (b == sysModules) = true by rw [hb]; exact Bool.false_ne_true)]
  refine wpAny_bind (wpAny_pure (wpAny_bind (wpAny_pure ?_)))
  refine wpAny_bind (wpAny_dictEntries h₁ hda ?_)
  dsimp only
  refine wpAny_bind (wpAny_dictEntries h₂ hdb ?_)
  rw [if_neg (by rw [hsz]; simp)]
  refine wpAny_bind (wpAny_dictEpoch h₁ hda ?_)
  refine wpAny_bind ?_
  rw [Std.Legacy.Range.forIn_eq_forIn_range']
  simp only [Std.Legacy.Range.size, Nat.sub_zero, Nat.add_sub_cancel, Nat.div_one]
  refine wpAny_forIn_list _
    (fun rest q s' => s' = s ∧ q = (none, ()) ∧ ∃ i, rest = List.range' i (es.size - i) ∧ i ≤ es.size)
    _ ?_ ?_ _ _ ⟨rfl, rfl, 0, by simp, Nat.zero_le _⟩
  · rintro x rest q s' ⟨rfl, rfl, i, hr, hi⟩
    have hlt : i < es.size := by
      rcases Nat.lt_or_ge i es.size with h | h
      · exact h
      · rw [Nat.sub_eq_zero_of_le h] at hr; simp at hr
    obtain ⟨rfl, hrest⟩ : x = i ∧ rest = List.range' (i + 1) (es.size - (i + 1)) := by
      have e : es.size - i = (es.size - (i + 1)) + 1 := by omega
      rw [e, List.range'_succ] at hr
      injection hr with h1 h2
      exact ⟨h1, h2⟩
    refine wpAny_bind (wpAny_dictEntries h₁ hda ?_)
    have hxl : x < xs.length := by rw [hra.length, hla]; exact hlt
    have hgx : xs[x]? = some xs[x] := List.getElem?_eq_getElem hxl
    obtain ⟨t, htx, r1, ⟨tok, r2⟩, r3⟩ := hra.get? hgx
    have hee : es[x]? = some (entryOfKey (tupleKind (mix prog w)) xs[x]) := by rw [entry_at hea, hgx]; rfl
    rw [hee]
    have hgt := hs.2 t (List.mem_of_getElem? htx)
    have hka := hk₁ _ _ r3
    show wpAny _ _ (holding [.ref xs[x].2.1, xs[x].2.2] _ >>= _) _ _ _
    refine wpAny_bind (wpAny_holding (wpAny_bind (wpAny_dictFind_heap (knd := tupleKind (mix prog w)) hu hka h₂ hdb heb his hnb ?_ ?_)))
    · intro hno
      exfalso
      have e1 := atKey_none_of_get hno
      rcases rows_at hrb xs[x].1 with ⟨_, e2⟩ | ⟨b', u, t', e2, _⟩
      · rw [r1, hgt] at e2; cases e2
      · rw [e1] at e2; cases e2
    · intro j p hj
      have e1 := atKey_of_get hnb hj
      have hp : ∃ tok', p.2 = .int t.2 tok' := by
        rcases rows_at hrb xs[x].1 with ⟨e2, _⟩ | ⟨b', u, t', e2, e3⟩
        · rw [e1] at e2; cases e2
        · rw [e1] at e2
          rw [r1, hgt] at e3
          obtain rfl := Option.some.inj e3
          exact ⟨t', by rw [Option.some.inj e2]⟩
      obtain ⟨tok', hp⟩ := hp
      refine wpAny_bind (wpAny_dictEntries h₂ hdb ?_)
      rw [entry_at heb j, hj]
      show wpAny _ _ (holding [p.2] (eqBool xs[x].2.2 p.2)) _ _ _
      rw [r2, hp]
      refine wpAny_holding (SeqAt.EqAt.int_int _ _ _ _ prog w _ _ ?_)
      simp only [beq_self_eq_true]
      show wpAny _ _ (if (!true) = true then _ else _) _ _ _
      rw [if_neg (by decide)]
      refine wpAny_bind (wpAny_dictEpoch h₁ hda ?_)
      rw [if_neg (by simp)]
      exact wpAny_pure ⟨rfl, rfl, x + 1, hrest, hlt⟩
  · rintro q s' ⟨rfl, rfl, i, hr, hi⟩
    exact wpAny_pure h

theorem tab_type {s : Shared} {KP : List MK → Addr → Prop} {o : Obj} {T : Tb} (h : s.heap.get? a = some o) (x : TabO prog w KP o T) : s.TypeIs (.ref a) "dict" := ⟨o, h, (let ⟨_, hD, _⟩ := x; hD.1.1)⟩

theorem tab_eq {Q : Value → Shared → Prop} (ha : (a == sysModules) = false) (hb : (b == sysModules) = false)
    (h₁ : s.heap.get? a = some o₁) (h₂ : s.heap.get? b = some o₂) (x₁ : TabO prog w KP₁ o₁ T₁) (x₂ : TabO prog w KP₂ o₂ T₂)
    (hk₁ : ∀ ks c, KP₁ ks c → IsTupleKey (mix prog w) s.heap ks c) (hk₂ : ∀ ks c, KP₂ ks c → IsTupleKey (mix prog w) s.heap ks c) (hu : A.units + 10 < cLine)
    (hs : SameT T₁ T₂) (h : Q (.bool true) s) : wpAny (model prog w) A (richCompare .Eq (.ref a) (.ref b)) Q E s := by
  have ta := tab_type h₁ x₁
  have tb := tab_type h₂ x₂
  refine wpAny_richCompare_same_room (op := .Eq) ta tb PySem.F.slot_dict_eq (wpAny_call_entry PySem.F.slot_dict_eq ta PySem.F.entry_dict_eq ?_ (PySem.F.args_dict_eq_2 _ _)) (by omega)
  show wpAny _ _ (Builtin.Dict.dictSlotArgs "__eq__" ⟨[.ref a, .ref b], []⟩ >>= _) _ _ s
  refine wpAny_bind ?_
  unfold Builtin.Dict.dictSlotArgs
  refine wpAny_bind (wpAny_notOrdered_dict ta ?_)
  show wpAny _ _ (pure (Value.ref a, Value.ref b)) _ _ s
  refine wpAny_pure ?_
  refine wpAny_bind (wpAny_isInstance (T := "dict") tb PySem.F.sub_dict_dict ?_)
  simp only [Bool.not_true, Bool.false_eq_true, if_false]
  refine wpAny_bind (wpAny_pure (wpAny_bind (wpAny_pure ?_)))
  refine wpAny_bind (same_pairs ha hb h₁ h₂ x₁ x₂ hk₁ hk₂ (by show A.units + 1 < cLine; omega) hs ?_)
  refine wpAny_pure ⟨_, rfl, ?_, ?_⟩
  · exact fun x => nomatch x
  · simpa using h

def EqIn (prog : Program) (w : World) (A : Around) (s : Shared) (y x : Value) : Prop := ∀ (E : Value → Shared → Prop) (Q : Bool → Shared → Prop), Q true s → wpAny (model prog w) A (eqBool y x) Q E s

theorem tab_eqIn (ha : (a == sysModules) = false) (hb : (b == sysModules) = false)
    (h₁ : s.heap.get? a = some o₁) (h₂ : s.heap.get? b = some o₂) (x₁ : TabO prog w KP₁ o₁ T₁) (x₂ : TabO prog w KP₂ o₂ T₂)
    (hk₁ : ∀ ks c, KP₁ ks c → IsTupleKey (mix prog w) s.heap ks c) (hk₂ : ∀ ks c, KP₂ ks c → IsTupleKey (mix prog w) s.heap ks c) (hu : A.units + 10 < cLine)
    (hs : SameT T₁ T₂) : EqIn prog w A s (.ref a) (.ref b) := fun E Q h => by
  unfold eqBool
  try with_reducible refine wpAny_holding ?_
  show wpAny _ _ (if (Value.ref a == Value.ref b) = true then _ else _) Q E s
  by_cases hab : (Value.ref a == Value.ref b) = true
  · rw [if_pos hab]
    exact wpAny_bind (wpAny_rule (wpAny_pure h))
  · rw [if_neg hab]
    exact wpAny_bind (tab_eq ha hb h₁ h₂ x₁ x₂ hk₁ hk₂ hu hs (wpAny_truthy_bool h))

open AutoSeq1 (wpAny_loadPart')
open MeetsSeq MeetsSeq2 MeetsSeq3
theorem ne_loopIn (l b : Addr) (items items2 : Array Value) (n n2 : Nat) (dd dd2 : Option Addr) (sl sl2 : Array (Option Value)) (hsz : items.size = items2.size) (k : Nat) :
    ∀ i : Nat, items.size - i = k → MeetsIn prog w (Builtin.«list.__eq__.loop» ⟨[.ref l, .ref b, rawInt i, rawInt 3], []⟩)
      (fun A R s => s.heap.get? l = some { cls := .type "list", dict := dd, data := .seq items n, slots := sl } ∧ s.heap.get? b = some { cls := .type "list", dict := dd2, data := .seq items2 n2, slots := sl2 } ∧
        (∀ j (h1 : j < items.size) (h2 : j < items2.size), EqIn prog w A.in1 s items[j] items2[j]) ∧
        R (.ok (.ret (.bool false))) s) := by
  induction k with
  | zero =>
    intro i hk A R s h
    obtain ⟨hp, g, d, tk, os⟩ := s; obtain ⟨hl, hb, he, h⟩ := h
    wp_walk using wpAny_loadPart' hl, wpAny_loadPart' hb
    have hi1 : items[((i : Nat) : Int).toNat]? = none := by simp; omega
    have hi2 : items2[((i : Nat) : Int).toNat]? = none := by simp; omega
    rw [hi1, hi2]
    wp_walk using wpAny_loadPart' hl, wpAny_loadPart' hb
    show R (.ok (.ret (.bool (items.size != items2.size)))) _
    rw [hsz]
    simpa using h
  | succ k ih =>
    intro i hk A R s h
    obtain ⟨hp, g, d, tk, os⟩ := s; obtain ⟨hl, hb, he, h⟩ := h
    wp_walk using wpAny_loadPart' hl, wpAny_loadPart' hb
    have hlt : i < items.size := by omega
    have hlt2 : i < items2.size := by omega
    have hi1 : items[((i : Nat) : Int).toNat]? = some items[i] := by simp [hlt]
    have hi2 : items2[((i : Nat) : Int).toNat]? = some items2[i] := by simp [hlt2]
    have hc : ((i : Int) + 1) = ((i + 1 : Nat) : Int) := by push_cast; rfl
    rw [hi1, hi2]
    refine wpAny_bind (he i hlt hlt2 _ _ ?_)
    wp_walk
    rw [hc]
    exact ⟨plainId_quiet plain_eq_loop _, codeAny_builtin entry_eq_loop (by
      rw [Around.under_plainId plain_eq_loop _]
      exact ih (i + 1) (by omega) A R _ ⟨hl, hb, he, by simpa using h⟩)⟩

theorem list_neIn (l b : Addr) (items items2 : Array Value) (n n2 : Nat) (dd dd2 : Option Addr) (sl sl2 : Array (Option Value)) (hsz : items.size = items2.size) :
    MeetsIn prog w (Builtin.«list.__ne__» ⟨[.ref l, .ref b], []⟩)
      (fun A R s => s.heap.get? l = some { cls := .type "list", dict := dd, data := .seq items n, slots := sl } ∧ s.heap.get? b = some { cls := .type "list", dict := dd2, data := .seq items2 n2, slots := sl2 } ∧
        (∀ j (h1 : j < items.size) (h2 : j < items2.size), EqIn prog w A.in1 s items[j] items2[j]) ∧
        R (.ok (.ret (.bool false))) s) := by
  intro A R s h
  obtain ⟨hp, g, d, tk, os⟩ := s; obtain ⟨hl, hb, he, h⟩ := h
  have f3 := AutoSeq1.sub_list_list
  have hne : ¬ (items.size != items2.size) = true := by simp [hsz]
  wp_walk using wpAny_loadPart' hl, wpAny_loadPart' hb
  exact ⟨plainId_quiet plain_eq_loop _, codeAny_builtin entry_eq_loop (by
    rw [Around.under_plainId plain_eq_loop _]
    exact ne_loopIn l b items items2 n n2 dd dd2 sl sl2 hsz _ 0 rfl A R _ ⟨hl, hb, he, by simpa using h⟩)⟩

theorem lists_same {l b : Addr} {items items2 : Array Value} {Q : Value → Shared → Prop} (hl : s.heap.IsList l items) (hb : s.heap.IsList b items2) (hsz : items.size = items2.size) (hu : A.units < cLine)
    (he : ∀ j (h1 : j < items.size) (h2 : j < items2.size), EqIn prog w A.in1 s items[j] items2[j]) (h : Q (.bool false) s) : wpAny (model prog w) A (compareOp .NotEq (.ref l) (.ref b)) Q E s := by
  obtain ⟨⟨cls, dd, data, sl⟩, ho, hc, n, hd⟩ := id hl
  obtain ⟨⟨cls2, dd2, data2, sl2⟩, ho2, hc2, n2, hd2⟩ := id hb
  simp only at hc hd hc2 hd2
  subst hc hd hc2 hd2
  have t1 : s.TypeIs (.ref l) "list" := ⟨_, ho, rfl⟩
  have t2 : s.TypeIs (.ref b) "list" := ⟨_, ho2, rfl⟩
  show wpAny (model prog w) A (richCompare .NotEq (.ref l) (.ref b)) Q E s
  refine wpAny_richCompare_same_room (op := .NotEq) t1 t2 PySem.F.slot_list_ne ?_ hu
  exact call_meetsIn PySem.F.slot_list_ne t1 PySem.F.entry_list_ne (PySem.F.args_list_ne_2 _ _) (list_neIn l b items items2 n n2 dd dd2 sl sl2 hsz)
    ⟨ho, ho2, he, show Value.bool false ≠ Value.notImplemented ∧ Q (.bool false) s from ⟨(fun x => nomatch x), h⟩⟩
end
end Mine
end TEqd
section TLw
set_option autoImplicit false
namespace Mine
def ListO (o : Obj) (items : List Value) : Prop := o.cls = .type "list" ∧ ∃ n, o.data = .seq items.toArray n
theorem ListO.list {o : Obj} {items : List Value} (x : ListO o items) {h₀ h : Heap} {L a : Addr} {news : List (Addr × Obj)} (N : News h₀ L h news) (hm : (a, o) ∈ news) : h.IsList a items.toArray := ⟨o, (N _ hm).1, x.1, x.2⟩
theorem ListO.lst (items : List Value) : ListO (LCg.lst items) items := ⟨rfl, _, rfl⟩
theorem ListO.of (items : List Value) (n : Nat) : ListO (listOf items.toArray n) items := ⟨rfl, n, rfl⟩

theorem All2.set {α β : Type} {R : α → β → Prop} {as : List α} {bs : List β} (h : All2 R as bs) {a : α} {b : β} (hr : R a b) : ∀ i, All2 R (as.set i a) (bs.set i b) := by
  induction h with
  | nil => intro i; exact .nil
  | cons h t ih =>
    intro i
    cases i with
    | zero => exact .cons hr t
    | succ i => exact .cons h (ih i)

section
variable {prog : Program} {w : World} {A : Around} {E : Value → Shared → Prop} {s : Shared} {h₀ : Heap} {L l : Addr} {m : Str → Option Value} {own rest : List (Addr × Obj)} {o : Obj} {items : List Value}

theorem list_set {k : Int} {t : Tok} {v : Value} {Q : Unit → Shared → Prop} (F : Fr h₀ L s.heap m) (N : News h₀ L s.heap (own ++ (l, o) :: rest)) (h1 : ∀ p ∈ own, p.1 ≠ l) (h2 : ∀ p ∈ rest, p.1 ≠ l)
    (x : ListO o items) (hk0 : 0 ≤ k) (hk : k < items.length) (hsz : items.length < 2 ^ 60)
    (h : ∀ h' tk o', Fr h₀ L h' m → News h₀ L h' (own ++ (l, o') :: rest) → ListO o' (items.set k.toNat v) → Q () { s with heap := h', toks := tk }) :
    wpAny (model prog w) A (setItem (.ref l) (.int k t) v) Q E s := by
  have hm := N (l, o) (List.mem_append_right _ (.head _))
  refine wpAny_setItem_list (x.list N (List.mem_append_right _ (.head _))) hk0 (by omega) (by simpa using hk) fun h' hl hs => ?_
  obtain ⟨o', ho', hc', n', hd'⟩ := hl
  exact h h' _ o' (F.change hs hm.2.1 hm.2.2) (N.setIn h1 h2 hs ho') ⟨hc', n', by simpa using hd'⟩

theorem list_at {value slice : Expr} {k : Int} {u : Tok} {v : Value} {Q : Value → Shared → Prop} (hl : s.heap.IsList l items.toArray)
    (h0 : 0 ≤ k) (hk : k < 2 ^ 60) (hx : items[k.toNat]? = some v) (hq : Q v s)
    (hs : subscripted slice false (.ref l) (.int k u) = operate [.ref l, .int k u] (getItem (.ref l) (.int k u)) := by with_unfolding_all rfl) (hg : ∀ r, letTemporaryGo value (.ref l) r = pure () := by intro _; with_unfolding_all rfl) :
    wpAny (model prog w) A (subscriptTail value slice (.ref l) (.int k u)) Q E s :=
  item_list hl h0 (by omega) (by simpa using hx) hq hs hg

theorem store_one {KP : List MK → Addr → Prop} {d a : Addr} {k : List MK} {v : Int} {tok : Tok} {Q : Value → Shared → Prop} (hu : A.units < cLine) (F : Fr h₀ L s.heap m) (N : News h₀ L s.heap (own ++ (d, o) :: rest)) (h1 : ∀ p ∈ own, p.1 ≠ d) (h2 : ∀ p ∈ rest, p.1 ≠ d)
    (x : TabO prog w KP o []) (hk : ∀ ks b, KP ks b → IsTupleKey (mix prog w) s.heap ks b) (hka : KP k a)
    (h : ∀ h' tk o', Fr h₀ L h' m → News h₀ L h' (own ++ (d, o') :: rest) → TabO prog w KP o' [(k, v)] → Q (.ref d) { s with heap := h', toks := tk }) :
    TupStores prog w A E d Q [(.ref a, .int v tok)] s := by
  have hm := N (d, o) (List.mem_append_right _ (.head _))
  unfold TupStores storeAll
  rw [List.forIn_cons]
  refine wpAny_bind (wpAny_bind (tab_dictSet hu hm.1 x hk hka (Nat.zero_le _) fun h' tk o' ho' hs ht => wpAny_pure ?_))
  dsimp only
  rw [List.forIn_nil]
  exact wpAny_pure (h h' tk o' (F.change hs hm.2.1 hm.2.2) (N.setIn h1 h2 hs ho') ht)
end
end Mine
end TLw
section TNon
set_option autoImplicit false
namespace Mine
/-! None-ness of tied hangs on the sorted degrees alone -/
def insI (d : Int) : List Int → List Int
  | [] => [d]
  | q :: r => if q < d then q :: insI d r else d :: q :: r
def takeI : List Int → List Int → Option (List Int)
  | [], l => some l
  | o :: t, l => if o = 0 then none else takeI t (insI (o - 1) l)
def runI : Nat → List Int → Bool
  | 0, _ => true
  | n + 1, l =>
    match l.getLast? with
    | none => true
    | some d => if d > (l.dropLast.length : Int) then false else
      match takeI (l.dropLast.drop (l.dropLast.length - d.toNat)) (l.dropLast.take (l.dropLast.length - d.toNat)) with
      | none => false
      | some l' => runI n l'
def okI (l : List Int) : Bool := runI l.length l

theorem insI_low {d : Int} {l : List Int} (h : ∀ q ∈ l, d ≤ q) : insI d l = d :: l := by
  cases l with
  | nil => rfl
  | cons q r =>
    have := h q (.head _)
    simp only [insI]
    rw [if_neg (by omega)]

theorem map_ins {p : Int × Int} : ∀ {ps : List (Int × Int)}, Srt ps → (ins p ps).map (·.1) = insI p.1 (ps.map (·.1))
  | [], _ => rfl
  | q :: r, h => by
    have h' := List.pairwise_cons.mp h
    have ih := map_ins (p := p) h'.2
    simp only [ins, List.map_cons, insI]
    by_cases hq : prLt q p = true
    · rw [if_pos hq, List.map_cons, ih]
      by_cases hlt : q.1 < p.1
      · rw [if_pos hlt]
      · rw [if_neg hlt]
        have he : q.1 = p.1 := by
          simp only [prLt, Bool.or_eq_true, Bool.and_eq_true, decide_eq_true_eq] at hq
          omega
        rw [insI_low, he]
        intro x hx
        obtain ⟨y, hy, rfl⟩ := List.mem_map.mp hx
        have := h'.1 y hy
        simp only [prLt, Bool.or_eq_false_iff, Bool.and_eq_false_iff, decide_eq_false_iff_not] at this
        omega
    · rw [if_neg hq, List.map_cons, List.map_cons]
      have hlt : ¬ q.1 < p.1 := by
        simp only [prLt, Bool.or_eq_true, Bool.and_eq_true, decide_eq_true_eq] at hq
        omega
      rw [if_neg hlt]

theorem takeL_I (one : Int) : ∀ (tk left ties : List (Int × Int)), Srt left → (takeL one tk left ties).map (fun r => r.1.map (·.1)) = takeI (tk.map (·.1)) (left.map (·.1)) ∧ ∀ r, takeL one tk left ties = some r → Srt r.1
  | [], left, ties, h => ⟨rfl, fun r e => by obtain rfl := Option.some.inj e; exact h⟩
  | (o, two) :: t, left, ties, h => by
    simp only [takeL, List.map_cons, takeI]
    by_cases ho : o = 0
    · rw [if_pos ho, if_pos ho]
      exact ⟨rfl, fun r e => nomatch e⟩
    · rw [if_neg ho, if_neg ho, ← map_ins (p := (o - 1, two)) h]
      exact takeL_I one t _ _ (ins_srt h)

theorem runL_I : ∀ (n : Nat) (left ties : List (Int × Int)), Srt left → (runL n left ties).isSome = runI n (left.map (·.1))
  | 0, _, _, _ => rfl
  | n + 1, left, ties, h => by
    have hg : (left.map (·.1)).getLast? = left.getLast?.map (·.1) := by simp
    have hd : (left.map (·.1)).dropLast = left.dropLast.map (·.1) := by simp
    have hsd : Srt left.dropLast := List.Pairwise.sublist (List.dropLast_sublist _) h
    simp only [runL, runI]
    rw [hg, hd]
    cases e : left.getLast? with
    | none => rfl
    | some p =>
      obtain ⟨d, one⟩ := p
      simp only [Option.map_some, List.length_map]
      by_cases hgt : d > (left.dropLast.length : Int)
      · rw [if_pos hgt, if_pos hgt]; rfl
      · rw [if_neg hgt, if_neg hgt]
        obtain ⟨h1, h2⟩ := takeL_I one (left.dropLast.drop (left.dropLast.length - d.toNat)) (left.dropLast.take (left.dropLast.length - d.toNat)) ties (List.Pairwise.sublist (List.take_sublist _ _) hsd)
        rw [List.map_drop, List.map_take] at h1
        rw [← h1]
        cases e2 : takeL one (left.dropLast.drop (left.dropLast.length - d.toNat)) (left.dropLast.take (left.dropLast.length - d.toNat)) ties with
        | none => rfl
        | some r =>
          obtain ⟨l, t⟩ := r
          exact runL_I n l t (h2 _ e2)

theorem insI_perm (d : Int) : ∀ l : List Int, (insI d l).Perm (d :: l)
  | [] => List.Perm.refl _
  | q :: r => by
    simp only [insI]
    split
    · exact ((insI_perm d r).cons q).trans (List.Perm.swap ..)
    · exact List.Perm.refl _
theorem insI_sorted {d : Int} : ∀ {l : List Int}, l.Pairwise (· ≤ ·) → (insI d l).Pairwise (· ≤ ·)
  | [], _ => by simp [insI]
  | q :: r, h => by
    have h' := List.pairwise_cons.mp h
    simp only [insI]
    split
    · refine List.pairwise_cons.mpr ⟨fun x hx => ?_, insI_sorted h'.2⟩
      rcases List.mem_cons.mp ((insI_perm d r).mem_iff.mp hx) with rfl | hx
      · omega
      · exact h'.1 x hx
    · refine List.pairwise_cons.mpr ⟨fun x hx => ?_, h⟩
      rcases List.mem_cons.mp hx with rfl | hx
      · omega
      · have := h'.1 x hx; omega

theorem sorted_unique : ∀ {l m : List Int}, l.Pairwise (· ≤ ·) → m.Pairwise (· ≤ ·) → l.Perm m → l = m
  | [], m, _, _, hp => (List.Perm.nil_eq hp)
  | a :: l, [], _, _, hp => absurd hp.symm (List.not_perm_nil_cons _ _)
  | a :: l, b :: m, hl, hm, hp => by
    have hl' := List.pairwise_cons.mp hl
    have hm' := List.pairwise_cons.mp hm
    have h1 : a ≤ b := by
      rcases List.mem_cons.mp (hp.mem_iff.mpr (.head _)) with h | h
      · omega
      · exact hl'.1 b h
    have h2 : b ≤ a := by
      rcases List.mem_cons.mp (hp.mem_iff.mp (.head _)) with h | h
      · omega
      · exact hm'.1 a h
    have e : a = b := by omega
    subst e
    rw [sorted_unique hl'.2 hm'.2 (List.Perm.cons_inv hp)]

theorem startL_map (ds : List Int) : ∀ n, n ≤ ds.length → ((startL ds n).map (·.1)).Perm (ds.take n) ∧ ((startL ds n).map (·.1)).Pairwise (· ≤ ·)
  | 0, _ => ⟨by simp [startL], by simp [startL]⟩
  | n + 1, h => by
    obtain ⟨h1, h2⟩ := startL_map ds n (Nat.le_of_succ_le h)
    simp only [startL]
    rw [map_ins (startL_srt ds n)]
    refine ⟨?_, insI_sorted h2⟩
    have hg : ds[n]? = some ds[n] := List.getElem?_eq_getElem h
    have e : ds.getD n 0 = ds[n] := by rw [List.getD_eq_getElem?_getD, hg]; rfl
    rw [List.take_add_one, hg, e]
    refine (insI_perm _ _).trans ((h1.cons _).trans ?_)
    exact List.perm_append_comm (l₁ := [ds[n]]) (l₂ := ds.take n)

theorem tied_ok {ds srt : List Int} (hp : srt.Perm ds) (hs : srt.Pairwise (· ≤ ·)) : (tied ds).isSome = okI srt := by
  unfold tied okI
  rw [runL_I _ _ _ (startL_srt ds _)]
  obtain ⟨h1, h2⟩ := startL_map ds ds.length (Nat.le_refl _)
  rw [List.take_length] at h1
  rw [sorted_unique h2 hs (h1.trans hp.symm), hp.length_eq]

def genI : Nat → Nat → List (List Int)
  | 0, _ => [[]]
  | n + 1, lo => (List.range' lo (7 - lo)).flatMap fun v => (genI n v).map fun l => (v : Int) :: l
theorem genI_mem : ∀ {l : List Int} {lo : Nat}, l.Pairwise (· ≤ ·) → (∀ d ∈ l, (lo : Int) ≤ d ∧ d ≤ 6) → l ∈ genI l.length lo
  | [], lo, _, _ => by simp [genI]
  | d :: l, lo, hs, h => by
    have hs' := List.pairwise_cons.mp hs
    have hd := h d (.head _)
    simp only [List.length_cons, genI, List.mem_flatMap]
    refine ⟨d.toNat, List.mem_range'_1.mpr (by omega), List.mem_map.mpr ⟨l, genI_mem hs'.2 fun x hx => ?_, ?_⟩⟩
    · have := hs'.1 x hx
      have := h x (.tail _ hx)
      omega
    · congr 1; omega
def zer (l : List Int) : List Int := List.replicate (7 - l.length) 0 ++ l
def chkA (l : List Int) : Bool := canS l.reverse == okI l
def chkB (l : List Int) : Bool := okI (zer l) == okI l
def chkC (l : List Int) : Bool := okI (l.map fun d => 6 - d).reverse == okI l
theorem genI_succ (n : Nat) : genI (n + 1) 0 = ((genI n 0).map fun l => (0 : Int) :: l) ++ (List.range' 1 6).flatMap fun v => (genI n v).map fun l => (v : Int) :: l := rfl
theorem chkA0 : (genI 0 0).all chkA = true := by decide +kernel
theorem chkA1 : (genI 1 0).all chkA = true := by decide +kernel
theorem chkA2 : (genI 2 0).all chkA = true := by decide +kernel
theorem chkA3 : (genI 3 0).all chkA = true := by decide +kernel
theorem chkA4 : (genI 4 0).all chkA = true := by decide +kernel
theorem chkA5 : (genI 5 0).all chkA = true := by decide +kernel
theorem chkA6a : ((genI 5 0).map fun l => (0 : Int) :: l).all chkA = true := by decide +kernel
theorem chkA6b : ((List.range' 1 6).flatMap fun v => (genI 5 v).map fun l => (v : Int) :: l).all chkA = true := by decide +kernel
theorem chkA6 : (genI 6 0).all chkA = true := by rw [genI_succ 5, List.all_append, chkA6a, chkA6b]; rfl
theorem chkA7a : (((genI 5 0).map fun l => (0 : Int) :: l).map fun l => (0 : Int) :: l).all chkA = true := by decide +kernel
theorem chkA7b : (((List.range' 1 6).flatMap fun v => (genI 5 v).map fun l => (v : Int) :: l).map fun l => (0 : Int) :: l).all chkA = true := by decide +kernel
theorem chkA7c : ((List.range' 1 6).flatMap fun v => (genI 6 v).map fun l => (v : Int) :: l).all chkA = true := by decide +kernel
theorem chkA7 : (genI 7 0).all chkA = true := by rw [genI_succ 6, List.all_append, genI_succ 5, List.map_append, List.all_append, chkA7a, chkA7b, chkA7c]; rfl
theorem chkB0 : (genI 0 0).all chkB = true := by decide +kernel
theorem chkB1 : (genI 1 0).all chkB = true := by decide +kernel
theorem chkB2 : (genI 2 0).all chkB = true := by decide +kernel
theorem chkB3 : (genI 3 0).all chkB = true := by decide +kernel
theorem chkB4 : (genI 4 0).all chkB = true := by decide +kernel
theorem chkB5 : (genI 5 0).all chkB = true := by decide +kernel
theorem chkB6a : ((genI 5 0).map fun l => (0 : Int) :: l).all chkB = true := by decide +kernel
theorem chkB6b : ((List.range' 1 6).flatMap fun v => (genI 5 v).map fun l => (v : Int) :: l).all chkB = true := by decide +kernel
theorem chkB6 : (genI 6 0).all chkB = true := by rw [genI_succ 5, List.all_append, chkB6a, chkB6b]; rfl
theorem chkC7a : (((genI 5 0).map fun l => (0 : Int) :: l).map fun l => (0 : Int) :: l).all chkC = true := by decide +kernel
theorem chkC7b : (((List.range' 1 6).flatMap fun v => (genI 5 v).map fun l => (v : Int) :: l).map fun l => (0 : Int) :: l).all chkC = true := by decide +kernel
theorem chkC7c : ((List.range' 1 6).flatMap fun v => (genI 6 v).map fun l => (v : Int) :: l).all chkC = true := by decide +kernel
theorem chkC7 : (genI 7 0).all chkC = true := by rw [genI_succ 6, List.all_append, genI_succ 5, List.map_append, List.all_append, chkC7a, chkC7b, chkC7c]; rfl
theorem chkA_all {l : List Int} (hs : l.Pairwise (· ≤ ·)) (hr : ∀ d ∈ l, 0 ≤ d ∧ d ≤ 6) (hl : l.length ≤ 7) : canS l.reverse = okI l := by
  have hm := genI_mem (lo := 0) hs (by simpa using hr)
  have hn : l.length = 0 ∨ l.length = 1 ∨ l.length = 2 ∨ l.length = 3 ∨ l.length = 4 ∨ l.length = 5 ∨ l.length = 6 ∨ l.length = 7 := by omega
  refine beq_iff_eq.mp ?_
  show chkA l = true
  rcases hn with h | h | h | h | h | h | h | h <;> rw [h] at hm
  · exact List.all_eq_true.mp chkA0 l hm
  · exact List.all_eq_true.mp chkA1 l hm
  · exact List.all_eq_true.mp chkA2 l hm
  · exact List.all_eq_true.mp chkA3 l hm
  · exact List.all_eq_true.mp chkA4 l hm
  · exact List.all_eq_true.mp chkA5 l hm
  · exact List.all_eq_true.mp chkA6 l hm
  · exact List.all_eq_true.mp chkA7 l hm
theorem chkB_all {l : List Int} (hs : l.Pairwise (· ≤ ·)) (hr : ∀ d ∈ l, 0 ≤ d ∧ d ≤ 6) (hl : l.length ≤ 7) : okI (zer l) = okI l := by
  by_cases h7 : l.length = 7
  · unfold zer; rw [h7]; rfl
  have hm := genI_mem (lo := 0) hs (by simpa using hr)
  have hn : l.length = 0 ∨ l.length = 1 ∨ l.length = 2 ∨ l.length = 3 ∨ l.length = 4 ∨ l.length = 5 ∨ l.length = 6 := by omega
  refine beq_iff_eq.mp ?_
  show chkB l = true
  rcases hn with h | h | h | h | h | h | h <;> rw [h] at hm
  · exact List.all_eq_true.mp chkB0 l hm
  · exact List.all_eq_true.mp chkB1 l hm
  · exact List.all_eq_true.mp chkB2 l hm
  · exact List.all_eq_true.mp chkB3 l hm
  · exact List.all_eq_true.mp chkB4 l hm
  · exact List.all_eq_true.mp chkB5 l hm
  · exact List.all_eq_true.mp chkB6 l hm
theorem chkC_all {l : List Int} (hs : l.Pairwise (· ≤ ·)) (hr : ∀ d ∈ l, 0 ≤ d ∧ d ≤ 6) (hl : l.length = 7) : okI (l.map fun d => 6 - d).reverse = okI l := by
  have hm := genI_mem (lo := 0) hs (by simpa using hr)
  rw [hl] at hm
  exact beq_iff_eq.mp (List.all_eq_true.mp chkC7 l hm)
end Mine
end TNon
section TPla
set_option autoImplicit false
namespace Mine
/-- a list of at most seven degrees, each from 0 to 6 -/
def Degs (ds : List Int) : Prop := ds.length ≤ 7 ∧ ∀ d ∈ ds, 0 ≤ d ∧ d ≤ 6
def fullOf (ds : List Int) : List Int := ds ++ List.replicate (7 - ds.length) 0
theorem sorted_of (ds : List Int) : ∃ srt : List Int, srt.Perm ds ∧ srt.Pairwise (· ≤ ·) := by
  obtain ⟨h1, h2⟩ := startL_map ds ds.length (Nat.le_refl _)
  rw [List.take_length] at h1
  exact ⟨_, h1, h2⟩
theorem zer_perm {ds srt : List Int} (hp : srt.Perm ds) : (zer srt).Perm (fullOf ds) := by
  unfold zer fullOf
  rw [hp.length_eq]
  exact List.perm_append_comm.trans (hp.append_right _)
theorem zer_sorted {ds srt : List Int} (hd : Degs ds) (hp : srt.Perm ds) (hs : srt.Pairwise (· ≤ ·)) : (zer srt).Pairwise (· ≤ ·) := by
  unfold zer
  refine List.pairwise_append.mpr ⟨?_, hs, ?_⟩
  · exact List.pairwise_replicate.mpr (.inr (Int.le_refl _))
  · intro a ha b hb
    rw [(List.mem_replicate.mp ha).2]
    exact (hd.2 b (hp.mem_iff.mp hb)).1
theorem chk_of {ds srt : List Int} (hd : Degs ds) (hp : srt.Perm ds) (hs : srt.Pairwise (· ≤ ·)) : canS srt.reverse = okI srt ∧ okI (zer srt) = okI srt ∧ okI ((zer srt).map fun d => 6 - d).reverse = okI (zer srt) := by
  have hr : ∀ d ∈ srt, 0 ≤ d ∧ d ≤ 6 := fun d h => hd.2 d (hp.mem_iff.mp h)
  have hl : srt.length ≤ 7 := by rw [hp.length_eq]; exact hd.1
  refine ⟨chkA_all hs hr hl, chkB_all hs hr hl, chkC_all (zer_sorted hd hp hs) (fun d h => ?_) ?_⟩
  · rcases List.mem_append.mp h with h | h
    · rw [(List.mem_replicate.mp h).2]; omega
    · exact hr d h
  · simp only [zer, List.length_append, List.length_replicate]; omega
theorem p_can {ds : List Int} (hd : Degs ds) {b : Bool} (h : CanRes ds b) : b = (tied ds).isSome := by
  obtain ⟨srt, hp, hs, rfl⟩ := h
  rw [tied_ok hp hs]
  exact (chk_of hd hp hs).1
theorem full_ok {ds srt : List Int} (hd : Degs ds) (hp : srt.Perm ds) (hs : srt.Pairwise (· ≤ ·)) : (tied (fullOf ds)).isSome = okI (zer srt) := tied_ok (zer_perm hp) (zer_sorted hd hp hs)
theorem p_full {ds : List Int} (hd : Degs ds) : (tied (fullOf ds)).isNone = (tied ((fullOf ds).map fun d => 6 - d)).isNone := by
  obtain ⟨srt, hp, hs⟩ := sorted_of ds
  have h1 := full_ok hd hp hs
  have h2 : (tied ((fullOf ds).map fun d => 6 - d)).isSome = okI ((zer srt).map fun d => 6 - d).reverse := by
    refine tied_ok ((List.reverse_perm _).trans ((zer_perm hp).map _)) ?_
    rw [List.pairwise_reverse, List.pairwise_map]
    exact (zer_sorted hd hp hs).imp fun h => by omega
  rw [(chk_of hd hp hs).2.2] at h2
  rw [← Option.not_isSome, ← Option.not_isSome, h1, h2]
theorem p_full2 {ds : List Int} (hd : Degs ds) : (tied (fullOf ds)).isNone = (tied ds).isNone := by
  obtain ⟨srt, hp, hs⟩ := sorted_of ds
  rw [← Option.not_isSome, ← Option.not_isSome, full_ok hd hp hs, tied_ok hp hs, (chk_of hd hp hs).2.1]
def mmT (ties : List (Int × Int)) : Tb := ties.map fun p => ([.n (min p.1 p.2), .n (max p.1 p.2)], 1)
def kf (i : Int) : List MK := [.x (Str.ofString "f"), .n i, .x (Str.ofString "g")]
def atR (R : List Tb) (i : Int) : Tb := R.getD i.toNat []
def stepT (R : List Tb) (p : Int × Int) : List Tb := (R.set p.1.toNat (mergeT (atR R p.1) [(kf p.2, 1)])).set p.2.toNat (mergeT (atR R p.2) [(kf p.1, 1)])
def stepB (R : List Tb) (p : Int × Int) : List Tb := (R.set p.2.toNat (mergeT [(kf p.1, 1)] (atR R p.2))).set p.1.toNat (mergeT [(kf p.2, 1)] (atR R p.1))
def nils (ds : List Int) : List Tb := List.replicate ds.length []
def thereR (ds : List Int) (ties : List (Int × Int)) : List Tb := ties.foldl stepT (nils ds)
def backR (ds : List Int) (ties : List (Int × Int)) : List Tb := ties.reverse.foldl stepB (nils ds)
def wholeT (R : List Tb) : Tb := R.foldl mergeT []
def degT (ds : List Int) : Tb := ((List.range ds.length).zip ds).filterMap fun p => if p.2 > 0 then some (kf p.1, p.2) else none
theorem full_degs {ds : List Int} (hd : Degs ds) : Degs (fullOf ds) := by
  refine ⟨?_, ?_⟩
  · have := hd.1
    simp [fullOf]; omega
  · intro d h
    rcases List.mem_append.mp h with h | h
    · exact hd.2 d h
    · have := (List.mem_replicate.mp h).2
      omega
theorem sub_degs {ds : List Int} (hd : Degs ds) : Degs (ds.map fun d => 6 - d) := by
  refine ⟨by simpa using hd.1, ?_⟩
  intro d h
  obtain ⟨e, he, rfl⟩ := List.mem_map.mp h
  have := hd.2 e he
  omega
theorem flatten_single {α : Type} (n : Nat) (x : α) : (List.replicate n [x]).flatten = List.replicate n x := by
  induction n with
  | zero => rfl
  | succ n ih => simp [List.replicate_succ, ih]
theorem ints_replicate (n : Nat) (tk : Tok) : IntsAre (List.replicate n (.int 0 tk)) (List.replicate n 0) := by
  induction n with
  | zero => exact IntsAre.nil
  | succ n ih => exact IntsAre.cons _ _ ih
theorem full_ints {ys : List Value} {ds : List Int} (hi : IntsAre ys ds) (tk : Tok) : IntsAre (ys ++ (List.replicate (7 - (ys.toArray.size : Int)).toNat [Value.int 0 tk]).flatten) (fullOf ds) := by
  rw [flatten_single]
  have e : (7 - (ys.toArray.size : Int)).toNat = 7 - ds.length := by rw [List.size_toArray, hi.length]; omega
  rw [e]
  exact hi.append (ints_replicate _ _)
end Mine
end TPla
section TInv
set_option autoImplicit false
namespace Mine
/-! what the ties are -/
def rem (i : Int) : List (Int × Int) → Int
  | [] => 0
  | q :: l => (if q.2 = i then q.1 else 0) + rem i l
def cnt (i : Int) : List (Int × Int) → Int
  | [] => 0
  | p :: l => (if p.1 = i ∨ p.2 = i then 1 else 0) + cnt i l
def um (p : Int × Int) : Int × Int := (min p.1 p.2, max p.1 p.2)
theorem rem_perm {i : Int} {l m : List (Int × Int)} (h : l.Perm m) : rem i l = rem i m := by
  induction h with
  | nil => rfl
  | cons x _ ih => simp only [rem, ih]
  | swap x y l => simp only [rem]; omega
  | trans _ _ ih1 ih2 => exact ih1.trans ih2
theorem rem_append (i : Int) : ∀ l m : List (Int × Int), rem i (l ++ m) = rem i l + rem i m
  | [], m => by simp [rem]
  | q :: l, m => by simp only [List.cons_append, rem, rem_append i l m]; omega
theorem cnt_append (i : Int) : ∀ l m : List (Int × Int), cnt i (l ++ m) = cnt i l + cnt i m
  | [], m => by simp [cnt]
  | q :: l, m => by simp only [List.cons_append, cnt, cnt_append i l m]; omega
theorem ins_perm (p : Int × Int) : ∀ l : List (Int × Int), (ins p l).Perm (p :: l)
  | [] => List.Perm.refl _
  | q :: r => by
    unfold ins
    split
    · exact ((ins_perm p r).cons q).trans (List.Perm.swap ..)
    · exact List.Perm.refl _
theorem takeL_length (one : Int) : ∀ (tk left ties : List (Int × Int)) (r : List (Int × Int) × List (Int × Int)), takeL one tk left ties = some r → r.1.length = left.length + tk.length
  | [], left, ties, r, h => by obtain rfl := Option.some.inj h; simp
  | (o, two) :: t, left, ties, r, h => by
    simp only [takeL] at h
    split at h
    · cases h
    · have := takeL_length one t _ _ r h
      rw [ins_length] at this
      simp only [List.length_cons]; omega

structure InvL (N : Nat) (deg : Int → Int) (left ties : List (Int × Int)) : Prop where
  nd : (left.map (·.2)).Nodup
  rg : ∀ q ∈ left, 0 ≤ q.1 ∧ 0 ≤ q.2 ∧ q.2 < N
  tr : ∀ p ∈ ties, p.1 ≠ p.2 ∧ (0 ≤ p.1 ∧ p.1 < N) ∧ (0 ≤ p.2 ∧ p.2 < N)
  pop : ∀ p ∈ ties, p.1 ∉ left.map (·.2)
  un : (ties.map um).Nodup
  dg : ∀ i, cnt i ties + rem i left = deg i

theorem takeL_inv {one : Int} {N : Nat} {deg : Int → Int} (h1 : 0 ≤ one ∧ one < N) : ∀ (tk left ties : List (Int × Int)) (r : List (Int × Int) × List (Int × Int)),
    ((left ++ tk).map (·.2)).Nodup → one ∉ (left ++ tk).map (·.2) → (∀ q ∈ left ++ tk, 0 ≤ q.1 ∧ 0 ≤ q.2 ∧ q.2 < N) → (∀ p ∈ ties, p.1 ≠ p.2 ∧ (0 ≤ p.1 ∧ p.1 < N) ∧ (0 ≤ p.2 ∧ p.2 < N)) →
    (∀ p ∈ ties, p.1 ∉ (left ++ tk).map (·.2)) → (ties.map um).Nodup → (∀ p ∈ ties, p.1 = one → p.2 ∉ tk.map (·.2)) →
    (∀ i, cnt i ties + rem i (left ++ tk) + (if i = one then (tk.length : Int) else 0) = deg i) → takeL one tk left ties = some r → InvL N deg r.1 r.2
  | [], left, ties, r, nd, no, rg, tr, pop, un, fo, dg, h => by
    obtain rfl := Option.some.inj h
    rw [List.append_nil] at nd rg pop dg
    refine ⟨nd, rg, tr, pop, un, fun i => ?_⟩
    have := dg i
    simpa using this
  | (o, two) :: t, left, ties, r, nd, no, rg, tr, pop, un, fo, dg, h => by
    simp only [takeL] at h
    by_cases ho : o = 0
    · rw [if_pos ho] at h; cases h
    rw [if_neg ho] at h
    have hP : (ins (o - 1, two) left ++ t).Perm ((o - 1, two) :: (left ++ t)) := (ins_perm _ left).append_right t
    have hQ : (left ++ (o, two) :: t).Perm ((o, two) :: (left ++ t)) := List.perm_middle
    have hPm : ((ins (o - 1, two) left ++ t).map (·.2)).Perm ((left ++ (o, two) :: t).map (·.2)) := (hP.map (·.2)).trans (hQ.map (·.2)).symm
    have hrgt := rg (o, two) (by simp)
    have h2 : two ∈ (left ++ (o, two) :: t).map (·.2) := by simp
    have hne : one ≠ two := fun e => no (e ▸ h2)
    refine takeL_inv h1 t _ _ r (hPm.nodup_iff.mpr nd) (fun hm => no (hPm.mem_iff.mp hm)) ?_ ?_ ?_ ?_ ?_ ?_ h
    · intro q hq
      rcases List.mem_cons.mp (hP.mem_iff.mp hq) with rfl | hq
      · simp only at hrgt ⊢; omega
      · exact rg q (hQ.mem_iff.mpr (.tail _ hq))
    · intro p hp
      rcases List.mem_append.mp hp with hp | hp
      · exact tr p hp
      · obtain rfl := List.mem_singleton.mp hp
        simp only at hrgt ⊢
        exact ⟨hne, h1, hrgt.2⟩
    · intro p hp hm
      rcases List.mem_append.mp hp with hp | hp
      · exact pop p hp (hPm.mem_iff.mp hm)
      · obtain rfl := List.mem_singleton.mp hp
        exact no (hPm.mem_iff.mp hm)
    · rw [List.map_append, List.nodup_append]
      refine ⟨un, by simp, ?_⟩
      intro a ha b hb e
      obtain ⟨p, hp, rfl⟩ := List.mem_map.mp ha
      simp only [List.map_cons, List.map_nil, List.mem_singleton] at hb
      subst hb
      have hp2 : p.1 ≠ two := fun e' => pop p hp (e' ▸ h2)
      have hE : min p.1 p.2 = min one two ∧ max p.1 p.2 = max one two := by
        simp only [um, Prod.mk.injEq] at e; exact e
      have hp1 : p.1 = one ∧ p.2 = two := by omega
      exact fo p hp hp1.1 (by rw [hp1.2]; simp)
    · intro p hp hp1 hm
      rcases List.mem_append.mp hp with hp | hp
      · exact fo p hp hp1 (by simp only [List.map_cons]; exact .tail _ hm)
      · obtain rfl := List.mem_singleton.mp hp
        have nd2 := (hQ.map (·.2)).nodup_iff.mp nd
        simp only [List.map_cons, List.nodup_cons] at nd2
        exact nd2.1 (by rw [List.map_append]; exact List.mem_append_right _ hm)
    · intro i
      have e1 := dg i
      rw [rem_perm hQ] at e1
      rw [rem_perm hP, cnt_append]
      simp only [rem, cnt, List.length_cons] at e1 ⊢
      by_cases hi : i = one
      · subst hi
        have : ¬ two = i := fun e => hne e.symm
        simp only [this, if_true, if_false, true_or] at e1 ⊢
        omega
      · have hi' : ¬ one = i := fun e => hi e.symm
        simp only [hi, hi', if_false, false_or] at e1 ⊢
        by_cases h2i : two = i
        · simp only [h2i, if_true] at e1 ⊢; omega
        · simp only [h2i, if_false] at e1 ⊢; omega

theorem runL_inv {N : Nat} {deg : Int → Int} : ∀ (n : Nat) (left ties T : List (Int × Int)), left.length = n → InvL N deg left ties → runL n left ties = some T → InvL N deg [] T
  | 0, left, ties, T, hl, I, h => by
    obtain rfl := Option.some.inj h
    obtain rfl := List.length_eq_zero_iff.mp hl
    exact I
  | n + 1, left, ties, T, hl, I, h => by
    obtain ⟨left, ⟨d, one⟩, rfl⟩ : ∃ l p, left = l ++ [p] := by
      have hne : left ≠ [] := by rintro rfl; simp at hl
      exact ⟨left.dropLast, left.getLast hne, (List.dropLast_concat_getLast hne).symm⟩
    have hl' : left.length = n := by simpa using hl
    have e : (left ++ [(d, one)]).length = n + 1 := hl
    rw [← e, runL_snoc] at h
    by_cases hgt : d > (left.length : Int)
    · rw [if_pos hgt] at h; cases h
    rw [if_neg hgt] at h
    obtain ⟨nd, rg, tr, pop, un, dg⟩ := I
    have hrg := rg (d, one) (by simp)
    simp only at hrg
    have hsplit : left.take (left.length - d.toNat) ++ left.drop (left.length - d.toNat) = left := List.take_append_drop _ _
    have ndl : one ∉ left.map (·.2) := by
      rw [List.map_append, List.nodup_append] at nd
      exact fun hm => nd.2.2 one hm one (by simp) rfl
    cases e2 : takeL one (left.drop (left.length - d.toNat)) (left.take (left.length - d.toNat)) ties with
    | none => rw [e2] at h; cases h
    | some r =>
      rw [e2] at h
      obtain ⟨l', t'⟩ := r
      have hlen := takeL_length _ _ _ _ _ e2
      have hlen' : l'.length = n := by
        simp only [List.length_take, List.length_drop] at hlen
        omega
      have I' : InvL N deg l' t' := by
        refine takeL_inv hrg.2 _ _ _ (l', t') ?_ ?_ ?_ tr ?_ un ?_ ?_ e2
        · rw [hsplit]
          rw [List.map_append, List.nodup_append] at nd
          exact nd.1
        · rw [hsplit]; exact ndl
        · rw [hsplit]; exact fun q hq => rg q (List.mem_append_left _ hq)
        · rw [hsplit]
          exact fun p hp hm => pop p hp (by rw [List.map_append]; exact List.mem_append_left _ hm)
        · intro p hp hp1 _
          exact pop p hp (by rw [hp1]; simp)
        · intro i
          rw [hsplit]
          have := dg i
          rw [rem_append] at this
          have hdl : ((left.drop (left.length - d.toNat)).length : Int) = d := by rw [List.length_drop]; omega
          rw [hdl]
          simp only [rem] at this
          by_cases hi : i = one
          · simp only [hi, if_true] at this ⊢; omega
          · have hi' : ¬ one = i := fun e => hi e.symm
            simp only [hi, hi', if_false] at this ⊢; omega
      rw [hl'] at h
      exact runL_inv n l' t' T hlen' I' h

theorem startL_rem (ds : List Int) (i : Int) : ∀ n : Nat, rem i (startL ds n) = if 0 ≤ i ∧ i < n then ds.getD i.toNat 0 else 0
  | 0 => by
    rw [if_neg (by omega)]; rfl
  | n + 1 => by
    simp only [startL]
    rw [rem_perm (ins_perm _ _)]
    simp only [rem]
    rw [startL_rem ds i n]
    by_cases hi : (n : Int) = i
    · subst hi
      rw [if_pos rfl, if_neg (by omega), if_pos (by omega)]
      simp
    · rw [if_neg hi]
      by_cases h2 : 0 ≤ i ∧ i < n
      · rw [if_pos h2, if_pos (by omega)]; omega
      · rw [if_neg h2, if_neg (by omega)]; omega
theorem startL_snd (ds : List Int) : ∀ n : Nat, ((startL ds n).map (·.2)).Nodup ∧ ∀ q ∈ startL ds n, 0 ≤ q.2 ∧ q.2 < n
  | 0 => ⟨by simp [startL], by simp [startL]⟩
  | n + 1 => by
    obtain ⟨h1, h2⟩ := startL_snd ds n
    simp only [startL]
    have hp := ins_perm (ds.getD n 0, (n : Int)) (startL ds n)
    refine ⟨(hp.map (·.2)).nodup_iff.mpr ?_, ?_⟩
    · simp only [List.map_cons, List.nodup_cons]
      refine ⟨fun hm => ?_, h1⟩
      obtain ⟨q, hq, e⟩ := List.mem_map.mp hm
      have := h2 q hq
      omega
    · intro q hq
      rcases List.mem_cons.mp (hp.mem_iff.mp hq) with rfl | hq
      · simp only; omega
      · have := h2 q hq; omega

theorem tied_props {ds : List Int} {ties : List (Int × Int)} (hnn : ∀ d ∈ ds, 0 ≤ d) (h : tied ds = some ties) :
    (∀ p ∈ ties, p.1 ≠ p.2 ∧ (0 ≤ p.1 ∧ p.1 < ds.length) ∧ (0 ≤ p.2 ∧ p.2 < ds.length)) ∧ (ties.map um).Nodup ∧ ∀ i : Int, cnt i ties = if 0 ≤ i ∧ i < ds.length then ds.getD i.toNat 0 else 0 := by
  obtain ⟨h1, h2⟩ := startL_snd ds ds.length
  have I := runL_inv (N := ds.length) (deg := fun i => if 0 ≤ i ∧ i < ds.length then ds.getD i.toNat 0 else 0) ds.length (startL ds ds.length) [] ties (startL_length _ _)
    ⟨h1, fun q hq => ⟨startL_nn hnn _ q hq, h2 q hq⟩, by simp, by simp, by simp, fun i => by rw [startL_rem]; simp [cnt]⟩ h
  exact ⟨I.tr, I.un, fun i => by have := I.dg i; simpa [rem] using this⟩
end Mine
end TInv
section TNbs
set_option autoImplicit false
namespace Mine
/-! the tables of the ties -/
def nb1 (i : Int) (p : Int × Int) : Option (List MK × Int) := if p.1 = i then some (kf p.2, 1) else if p.2 = i then some (kf p.1, 1) else none
def nb (i : Int) (ties : List (Int × Int)) : Tb := ties.filterMap (nb1 i)
def Ok (N : Nat) (ties : List (Int × Int)) : Prop := (∀ p ∈ ties, p.1 ≠ p.2 ∧ (0 ≤ p.1 ∧ p.1 < N) ∧ (0 ≤ p.2 ∧ p.2 < N)) ∧ (ties.map um).Nodup
theorem kf_inj {i j : Int} (h : kf i = kf j) : i = j := by
  simp only [kf, List.cons.injEq, MK.n.injEq] at h
  exact h.2.1
theorem nb_key {i j : Int} {ties : List (Int × Int)} (h : kf j ∈ (nb i ties).map (·.1)) : (min i j, max i j) ∈ ties.map um := by
  obtain ⟨t, ht, e⟩ := List.mem_map.mp h
  obtain ⟨p, hp, e2⟩ := List.mem_filterMap.mp ht
  refine List.mem_map.mpr ⟨p, hp, ?_⟩
  unfold nb1 at e2
  by_cases h1 : p.1 = i
  · rw [if_pos h1] at e2
    obtain rfl := Option.some.inj e2
    have := kf_inj e
    simp only [um, h1, this]
  · rw [if_neg h1] at e2
    by_cases h2 : p.2 = i
    · rw [if_pos h2] at e2
      obtain rfl := Option.some.inj e2
      have := kf_inj e
      simp only [um, h2, this, Prod.mk.injEq]
      omega
    · rw [if_neg h2] at e2; cases e2
theorem nb_keys {i : Int} {k : List MK} {ties : List (Int × Int)} (h : k ∈ (nb i ties).map (·.1)) : ∃ j, k = kf j ∧ ∃ p ∈ ties, p.1 = j ∨ p.2 = j := by
  obtain ⟨t, ht, rfl⟩ := List.mem_map.mp h
  obtain ⟨p, hp, e2⟩ := List.mem_filterMap.mp ht
  unfold nb1 at e2
  by_cases h1 : p.1 = i
  · rw [if_pos h1] at e2
    obtain rfl := Option.some.inj e2
    exact ⟨p.2, rfl, p, hp, .inr rfl⟩
  · rw [if_neg h1] at e2
    by_cases h2 : p.2 = i
    · rw [if_pos h2] at e2
      obtain rfl := Option.some.inj e2
      exact ⟨p.1, rfl, p, hp, .inl rfl⟩
    · rw [if_neg h2] at e2; cases e2
theorem nb_nodup (i : Int) : ∀ {ties : List (Int × Int)}, (ties.map um).Nodup → ((nb i ties).map (·.1)).Nodup
  | [], _ => by simp [nb]
  | p :: l, h => by
    rw [List.map_cons, List.nodup_cons] at h
    have ih := nb_nodup i h.2
    simp only [nb, List.filterMap_cons]
    cases e : nb1 i p with
    | none => exact ih
    | some t =>
      simp only [List.map_cons, List.nodup_cons]
      refine ⟨fun hm => h.1 ?_, ih⟩
      unfold nb1 at e
      by_cases h1 : p.1 = i
      · rw [if_pos h1] at e
        obtain rfl := Option.some.inj e
        have := nb_key (ties := l) hm
        rw [← h1] at this; exact this
      · rw [if_neg h1] at e
        by_cases h2 : p.2 = i
        · rw [if_pos h2] at e
          obtain rfl := Option.some.inj e
          have := nb_key (ties := l) hm
          rw [← h2] at this
          have e3 : um p = (min p.2 p.1, max p.2 p.1) := by simp only [um, Prod.mk.injEq]; omega
          rw [e3]; exact this
        · rw [if_neg h2] at e; cases e

theorem addT_fresh {T : Tb} {k : List MK} {v : Int} (h : k ∉ T.map (·.1)) : addT T k v = T ++ [(k, v)] := by
  have : getT T k = none := by
    unfold getT
    rw [List.find?_eq_none.mpr]
    · rfl
    · intro t ht hk
      exact h (List.mem_map.mpr ⟨t, ht, of_decide_eq_true hk⟩)
  unfold addT
  rw [this]
  exact putT_fresh h
theorem merge_fresh : ∀ (T S : Tb), ((S ++ T).map (·.1)).Nodup → mergeT S T = S ++ T
  | [], S, _ => by simp [mergeT]
  | t :: T, S, h => by
    have hf : t.1 ∉ S.map (·.1) := by
      intro hm
      rw [List.map_append, List.map_cons, List.nodup_append] at h
      exact h.2.2 _ hm _ (.head _) rfl
    have e : mergeT S (t :: T) = mergeT (addT S t.1 t.2) T := rfl
    rw [e, addT_fresh hf, merge_fresh T (S ++ [t]) (by simpa using h)]
    simp
def nbs (N : Nat) (ties : List (Int × Int)) : List Tb := (List.range N).map fun (i : Nat) => nb (i : Int) ties
theorem nbs_at {N : Nat} {ties : List (Int × Int)} {i : Int} (h : 0 ≤ i ∧ i < N) : atR (nbs N ties) i = nb i ties := by
  unfold atR nbs
  rw [List.getD_eq_getElem?_getD, List.getElem?_map, List.getElem?_range (by omega)]
  simp only [Option.map_some, Option.getD_some]
  congr 1; omega
theorem nbs_set2 {N : Nat} {ties ties' : List (Int × Int)} {a b : Int} {x y : Tb} (ha : 0 ≤ a ∧ a < N) (hb : 0 ≤ b ∧ b < N) (hx : nb a ties' = x) (hy : nb b ties' = y)
    (ho : ∀ i : Int, i ≠ a → i ≠ b → nb i ties' = nb i ties) : ((nbs N ties).set a.toNat x).set b.toNat y = nbs N ties' := by
  apply List.ext_getElem?
  intro j
  unfold nbs
  by_cases hj : j < N
  · rw [List.getElem?_set, List.getElem?_set]
    simp only [List.length_set, List.length_map, List.length_range, List.getElem?_map, List.getElem?_range hj, Option.map_some]
    by_cases h1 : b.toNat = j
    · have e : (j : Int) = b := by omega
      rw [if_pos h1, if_pos (by omega), e, hy]
    · rw [if_neg h1]
      by_cases h2 : a.toNat = j
      · have e : (j : Int) = a := by omega
        rw [if_pos h2, if_pos (by omega), e, hx]
      · rw [if_neg h2, ho (j : Int) (by omega) (by omega)]
  · rw [List.getElem?_eq_none (by simpa using hj), List.getElem?_eq_none (by simpa using hj)]
theorem nb_snoc (i : Int) (l : List (Int × Int)) (p : Int × Int) : nb i (l ++ [p]) = nb i l ++ (nb1 i p).toList := by
  simp only [nb, List.filterMap_append, List.filterMap_cons, List.filterMap_nil]
  cases nb1 i p <;> rfl
theorem nb_cons (i : Int) (l : List (Int × Int)) (p : Int × Int) : nb i (p :: l) = (nb1 i p).toList ++ nb i l := by
  simp only [nb, List.filterMap_cons]
  cases nb1 i p <;> rfl
theorem nb1_other {i : Int} {p : Int × Int} (h1 : i ≠ p.1) (h2 : i ≠ p.2) : nb1 i p = none := by
  unfold nb1
  rw [if_neg (fun e => h1 e.symm), if_neg (fun e => h2 e.symm)]
theorem nbs_nil (ds : List Int) : nbs ds.length [] = nils ds := by
  unfold nbs nils nb
  simp only [List.filterMap_nil]
  apply List.ext_getElem?
  intro j
  by_cases hj : j < ds.length
  · rw [List.getElem?_map, List.getElem?_range hj, List.getElem?_replicate, if_pos hj]; rfl
  · rw [List.getElem?_eq_none (by simpa using hj), List.getElem?_eq_none (by simpa using hj)]

theorem there_nbs {ds : List Int} {ties : List (Int × Int)} (h : Ok ds.length ties) : thereR ds ties = nbs ds.length ties := by
  obtain ⟨htr, hun⟩ := h
  unfold thereR
  have gen : ∀ (R l : List (Int × Int)), (∀ p ∈ R, p.1 ≠ p.2 ∧ (0 ≤ p.1 ∧ p.1 < ds.length) ∧ (0 ≤ p.2 ∧ p.2 < ds.length)) → ((l ++ R).map um).Nodup → R.foldl stepT (nbs ds.length l) = nbs ds.length (l ++ R) := by
    intro R
    induction R with
    | nil => intro l _ _; simp
    | cons p R ih =>
      intro l htr hun
      obtain ⟨hne, hr1, hr2⟩ := htr p (.head _)
      have hun2 : ((l ++ [p]).map um).Nodup := by
        have : (l ++ p :: R) = (l ++ [p]) ++ R := by simp
        rw [this, List.map_append, List.nodup_append] at hun
        exact hun.1
      have k1 := nb_nodup p.1 hun2
      have k2 := nb_nodup p.2 hun2
      have n1 : nb1 p.1 p = some (kf p.2, 1) := by simp [nb1]
      have n2 : nb1 p.2 p = some (kf p.1, 1) := by simp [nb1, hne]
      rw [nb_snoc, n1] at k1
      rw [nb_snoc, n2] at k2
      have e : stepT (nbs ds.length l) p = nbs ds.length (l ++ [p]) := by
        unfold stepT
        rw [nbs_at hr1, nbs_at hr2]
        refine nbs_set2 hr1 hr2 ?_ ?_ ?_
        · rw [nb_snoc, n1]; exact (merge_fresh _ _ k1).symm
        · rw [nb_snoc, n2]; exact (merge_fresh _ _ k2).symm
        · intro i h1 h2
          rw [nb_snoc, nb1_other h1 h2]; simp
      rw [List.foldl_cons, e, ih (l ++ [p]) (fun q hq => htr q (.tail _ hq)) (by simpa using hun)]
      simp
  rw [← nbs_nil, gen ties [] htr (by simpa using hun)]
  simp
theorem back_nbs {ds : List Int} {ties : List (Int × Int)} (h : Ok ds.length ties) : backR ds ties = nbs ds.length ties := by
  obtain ⟨htr, hun⟩ := h
  unfold backR
  rw [← nbs_nil]
  induction ties with
  | nil => rfl
  | cons p l ih =>
    have hun' := hun
    rw [List.map_cons, List.nodup_cons] at hun
    rw [List.reverse_cons, List.foldl_append, ih (fun q hq => htr q (.tail _ hq)) hun.2]
    obtain ⟨hne, hr1, hr2⟩ := htr p (.head _)
    have k1 := nb_nodup p.1 hun'
    have k2 := nb_nodup p.2 hun'
    have n1 : nb1 p.1 p = some (kf p.2, 1) := by simp [nb1]
    have n2 : nb1 p.2 p = some (kf p.1, 1) := by simp [nb1, hne]
    rw [nb_cons, n1] at k1
    rw [nb_cons, n2] at k2
    show stepB (nbs ds.length l) p = _
    unfold stepB
    rw [nbs_at hr1, nbs_at hr2]
    refine nbs_set2 hr2 hr1 ?_ ?_ ?_
    · rw [nb_cons, n2]; exact (merge_fresh _ _ k2).symm
    · rw [nb_cons, n1]; exact (merge_fresh _ _ k1).symm
    · intro i h1 h2
      rw [nb_cons, nb1_other h2 h1]; rfl

theorem getT_self {T : Tb} (hn : (T.map (·.1)).Nodup) {t : List MK × Int} (ht : t ∈ T) : getT T t.1 = some t.2 := by
  induction T with
  | nil => cases ht
  | cons x T ih =>
    rw [List.map_cons, List.nodup_cons] at hn
    rcases List.mem_cons.mp ht with rfl | ht
    · simp [getT]
    · have hne : ¬ x.1 = t.1 := fun e => hn.1 (e ▸ List.mem_map.mpr ⟨t, ht, rfl⟩)
      have := ih hn.2 ht
      simpa [getT, List.find?_cons, hne] using this
theorem same_self {T : Tb} (hn : (T.map (·.1)).Nodup) : SameT T T := ⟨rfl, fun _ ht => getT_self hn ht⟩
theorem nbs_same {N : Nat} {ties : List (Int × Int)} (h : (ties.map um).Nodup) : All2 SameT (nbs N ties) (nbs N ties) := by
  unfold nbs
  induction List.range N with
  | nil => exact .nil
  | cons i l ih => exact .cons (same_self (nb_nodup _ h)) ih
theorem sumT_gen : ∀ (T : Tb) (n : Int), T.foldl (fun n t => n + t.2) n = n + sumT T
  | [], n => by simp [sumT]
  | t :: T, n => by
    have h1 := sumT_gen T (n + t.2)
    have h2 := sumT_gen T (0 + t.2)
    simp only [List.foldl_cons, sumT] at h1 h2 ⊢
    rw [h1, h2]; omega
theorem sumT_cons (t : List MK × Int) (T : Tb) : sumT (t :: T) = t.2 + sumT T := by
  show T.foldl (fun n t => n + t.2) (0 + t.2) = _
  rw [sumT_gen]; omega
theorem sumT_nb (i : Int) : ∀ ties : List (Int × Int), sumT (nb i ties) = cnt i ties
  | [] => rfl
  | p :: l => by
    rw [nb_cons, cnt, ← sumT_nb i l]
    unfold nb1
    by_cases h1 : p.1 = i
    · simp [h1, sumT_cons]
    · by_cases h2 : p.2 = i
      · simp [h1, h2, sumT_cons]
      · simp [h1, h2]
end Mine
end TNbs
section TPlb
set_option autoImplicit false
namespace Mine
theorem ok_of {ds : List Int} (hd : Degs ds) {ties : List (Int × Int)} (h : tied ds = some ties) : Ok ds.length ties ∧ ∀ i : Int, cnt i ties = if 0 ≤ i ∧ i < ds.length then ds.getD i.toNat 0 else 0 := by
  obtain ⟨h1, h2, h3⟩ := tied_props (fun d hm => (hd.2 d hm).1) h
  exact ⟨⟨h1, h2⟩, h3⟩
theorem p_noself {ds : List Int} (hd : Degs ds) {ties : List (Int × Int)} (h : tied ds = some ties) : ∀ p ∈ ties, p.1 ≠ p.2 := fun p hp => ((ok_of hd h).1.1 p hp).1
theorem p_range {ds : List Int} (hd : Degs ds) {ties : List (Int × Int)} (h : tied ds = some ties) : ∀ p ∈ ties, (0 ≤ p.1 ∧ p.1 < ds.length) ∧ (0 ≤ p.2 ∧ p.2 < ds.length) := fun p hp => ((ok_of hd h).1.1 p hp).2
theorem p_pairs {ds : List Int} (hd : Degs ds) {ties : List (Int × Int)} (h : tied ds = some ties) : (dictT (mmT ties)).length = ties.length := by
  have hun := (ok_of hd h).1.2
  have hk : ((mmT ties).map (·.1)).Nodup := by
    have e : (mmT ties).map (·.1) = (ties.map um).map fun q => [MK.n q.1, MK.n q.2] := by simp [mmT, um]
    rw [e]
    refine List.Pairwise.map _ ?_ hun
    intro a b hab e
    simp only [List.cons.injEq, MK.n.injEq, and_true] at e
    exact hab (Prod.ext e.1 e.2)
  rw [show dictT (mmT ties) = mmT ties from copyT_eq hk]
  simp [mmT]
theorem p_same {ds : List Int} (hd : Degs ds) {ties : List (Int × Int)} (h : tied ds = some ties) : All2 SameT (thereR ds ties) (backR ds ties) := by
  rw [there_nbs (ok_of hd h).1, back_nbs (ok_of hd h).1]
  exact nbs_same (ok_of hd h).1.2
theorem p_count {ds : List Int} (hd : Degs ds) {ties : List (Int × Int)} (h : tied ds = some ties) : (thereR ds ties).map sumT = ds := by
  obtain ⟨hok, hc⟩ := ok_of hd h
  rw [there_nbs hok]
  apply List.ext_getElem?
  intro j
  unfold nbs
  by_cases hj : j < ds.length
  · rw [List.map_map, List.getElem?_map, List.getElem?_range hj, Option.map_some, List.getElem?_eq_getElem hj]
    simp only [Function.comp]
    rw [sumT_nb, hc, if_pos (by omega)]
    simp [hj]
  · rw [List.getElem?_eq_none (by simpa using hj), List.getElem?_eq_none (by omega)]

def sumI (l : List Int) : Int := l.foldr (· + ·) 0
theorem addT_sum {T : Tb} {k : List MK} {v : Int} (hn : (T.map (·.1)).Nodup) : sumT (addT T k v) = sumT T + v ∧ ((addT T k v).map (·.1)).Nodup ∧ (∀ x, x ∈ (addT T k v).map (·.1) ↔ x = k ∨ x ∈ T.map (·.1)) ∧ ∀ x, (getT (addT T k v) x).getD 0 = (getT T x).getD 0 + if x = k then v else 0 := by
  by_cases hk : k ∈ T.map (·.1)
  · obtain ⟨t, ht, rfl⟩ := List.mem_map.mp hk
    have hg := getT_self hn ht
    have e : addT T t.1 v = T.map fun x => if x.1 = t.1 then (x.1, t.2 + v) else x := by
      unfold addT
      rw [hg]
      simp only [putT, hg, Option.isSome_some, if_true]
    have hkeys : (addT T t.1 v).map (·.1) = T.map (·.1) := by
      rw [e, List.map_map]
      refine List.map_congr_left fun x _ => ?_
      simp only [Function.comp]
      split <;> rfl
    refine ⟨?_, by rw [hkeys]; exact hn, fun x => by rw [hkeys]; exact ⟨.inr, fun h => h.elim (fun e => e ▸ hk) id⟩, fun x => ?_⟩
    · rw [e]
      clear e hkeys hk hg
      induction T with
      | nil => cases ht
      | cons y T ih =>
        rw [List.map_cons, List.nodup_cons] at hn
        rw [List.map_cons, sumT_cons, sumT_cons]
        rcases List.mem_cons.mp ht with rfl | ht
        · rw [if_pos rfl]
          have e2 : (T.map fun x => if x.1 = t.1 then (x.1, t.2 + v) else x) = T := by
            conv => rhs; rw [← List.map_id T]
            refine List.map_congr_left fun x hx => ?_
            have hx2 : ¬ x.1 = t.1 := fun e => hn.1 (List.mem_map.mpr ⟨x, hx, e⟩)
            rw [if_neg hx2]; rfl
          rw [e2]; simp only; omega
        · have hne : ¬ y.1 = t.1 := fun e => hn.1 (e ▸ List.mem_map.mpr ⟨t, ht, rfl⟩)
          rw [if_neg hne, ih hn.2 ht]; omega
    · rw [e]
      have hfind : ∀ (S : Tb), getT (S.map fun x => if x.1 = t.1 then (x.1, t.2 + v) else x) x = (getT S x).map fun u => if x = t.1 then t.2 + v else u := by
        intro S
        induction S with
        | nil => rfl
        | cons y S ih =>
          by_cases hyx : y.1 = x
          · by_cases hyt : y.1 = t.1
            · have : x = t.1 := hyx.symm.trans hyt
              simp [getT, List.find?_cons, hyx, this, hyt]
            · have : ¬ x = t.1 := fun e => hyt (hyx.trans e)
              simp [getT, List.find?_cons, hyx, this, hyt]
          · by_cases hyt : y.1 = t.1
            · have h3 : ¬ t.1 = x := fun e => hyx (hyt.trans e)
              simpa [getT, List.find?_cons, hyx, hyt, h3] using ih
            · simpa [getT, List.find?_cons, hyx, hyt] using ih
      rw [hfind]
      by_cases hx : x = t.1
      · subst hx; rw [hg]; simp
      · simp [hx]
  · rw [addT_fresh hk]
    refine ⟨?_, ?_, ?_, ?_⟩
    · have : ∀ S : Tb, sumT (S ++ [(k, v)]) = sumT S + v := by
        intro S
        induction S with
        | nil => simp [sumT_cons, sumT]
        | cons y S ih => rw [List.cons_append, sumT_cons, sumT_cons, ih]; omega
      exact this T
    · rw [List.map_append, List.nodup_append]
      refine ⟨hn, by simp, fun a ha b hb e => ?_⟩
      simp only [List.map_cons, List.map_nil, List.mem_singleton] at hb
      exact hk (hb ▸ e ▸ ha)
    · intro x
      simp only [List.map_append, List.map_cons, List.map_nil, List.mem_append, List.mem_singleton]
      constructor <;> (rintro (h | h) <;> simp [h])
    · intro x
      have hnone : getT T k = none := by
        unfold getT
        rw [List.find?_eq_none.mpr]
        · rfl
        · intro t ht hk'
          exact hk (List.mem_map.mpr ⟨t, ht, of_decide_eq_true hk'⟩)
      unfold getT at hnone ⊢
      rw [List.find?_append]
      by_cases hx : x = k
      · subst hx
        rw [Option.map_eq_none_iff] at hnone
        rw [hnone]; simp
      · have : ¬ k = x := fun e => hx e.symm
        simp [this, hx, List.find?_cons]

def totT (T : Tb) (x : List MK) : Int := T.foldr (fun t n => (if x = t.1 then t.2 else 0) + n) 0
theorem merge_sum : ∀ (T S : Tb), (S.map (·.1)).Nodup → sumT (mergeT S T) = sumT S + sumT T ∧ ((mergeT S T).map (·.1)).Nodup ∧ (∀ x, x ∈ (mergeT S T).map (·.1) ↔ x ∈ T.map (·.1) ∨ x ∈ S.map (·.1)) ∧ ∀ x, (getT (mergeT S T) x).getD 0 = (getT S x).getD 0 + totT T x
  | [], S, h => ⟨by simp [mergeT, sumT], h, fun x => by simp [mergeT], fun x => by simp [mergeT, totT]⟩
  | t :: T, S, h => by
    obtain ⟨a1, a2, a3, a4⟩ := addT_sum (k := t.1) (v := t.2) h
    obtain ⟨b1, b2, b3, b4⟩ := merge_sum T (addT S t.1 t.2) a2
    have e : mergeT S (t :: T) = mergeT (addT S t.1 t.2) T := rfl
    rw [e]
    refine ⟨by rw [b1, a1, sumT_cons]; omega, b2, fun x => ?_, fun x => ?_⟩
    · rw [b3, a3, List.map_cons, List.mem_cons]
      constructor
      · rintro (h | h | h) <;> simp [h]
      · rintro ((h | h) | h) <;> simp [h]
    · rw [b4, a4]
      simp only [totT, List.foldr_cons]; omega
theorem whole_sum : ∀ (R : List Tb) (S : Tb), (S.map (·.1)).Nodup → sumT (R.foldl mergeT S) = sumT S + sumI (R.map sumT) ∧ ((R.foldl mergeT S).map (·.1)).Nodup ∧ (∀ x, x ∈ (R.foldl mergeT S).map (·.1) ↔ (∃ T ∈ R, x ∈ T.map (·.1)) ∨ x ∈ S.map (·.1)) ∧
    ∀ x, (getT (R.foldl mergeT S) x).getD 0 = (getT S x).getD 0 + sumI (R.map fun T => totT T x)
  | [], S, h => ⟨by simp [sumI], h, fun x => by simp, fun x => by simp [sumI]⟩
  | T :: R, S, h => by
    obtain ⟨a1, a2, a3, a4⟩ := merge_sum T S h
    obtain ⟨b1, b2, b3, b4⟩ := whole_sum R (mergeT S T) a2
    rw [List.foldl_cons]
    refine ⟨by rw [b1, a1]; simp only [List.map_cons, sumI, List.foldr_cons]; omega, b2, fun x => ?_, fun x => ?_⟩
    · rw [b3, a3]
      constructor
      · rintro (⟨U, hU, hx⟩ | h | h)
        · exact .inl ⟨U, .tail _ hU, hx⟩
        · exact .inl ⟨T, .head _, h⟩
        · exact .inr h
      · rintro (⟨U, hU, hx⟩ | h)
        · rcases List.mem_cons.mp hU with rfl | hU
          · exact .inr (.inl hx)
          · exact .inl ⟨U, hU, hx⟩
        · exact .inr (.inr h)
    · rw [b4, a4]
      simp only [List.map_cons, sumI, List.foldr_cons]; omega

theorem totT_nb (i j : Int) : ∀ ties : List (Int × Int), (∀ p ∈ ties, p.1 ≠ p.2) → totT (nb i ties) (kf j) = ((ties.map fun p => if p.1 = i then (if p.2 = j then (1 : Int) else 0) else if p.2 = i then (if p.1 = j then 1 else 0) else 0).foldr (· + ·) 0)
  | [], _ => rfl
  | p :: l, h => by
    have ih := totT_nb i j l fun q hq => h q (.tail _ hq)
    rw [nb_cons, List.map_cons, List.foldr_cons, ← ih]
    unfold nb1
    have hk : ∀ a b : Int, (kf a = kf b) = (b = a) := fun a b => propext ⟨fun e => (kf_inj e).symm, fun e => by rw [e]⟩
    by_cases h1 : p.1 = i
    · simp only [h1, if_true, Option.toList_some, List.cons_append, List.nil_append, totT, List.foldr_cons, hk]
    · by_cases h2 : p.2 = i
      · simp only [h1, h2, if_true, if_false, Option.toList_some, List.cons_append, List.nil_append, totT, List.foldr_cons, hk]
      · simp only [h1, h2, if_false, Option.toList_none, List.nil_append, totT]; omega
theorem sum_ind (a : Int) : ∀ N : Nat, sumI ((List.range N).map fun (i : Nat) => if a = (i : Int) then (1 : Int) else 0) = if 0 ≤ a ∧ a < N then 1 else 0
  | 0 => by rw [if_neg (by omega)]; rfl
  | N + 1 => by
    have happ : ∀ (l : List Int) (x : Int), sumI (l ++ [x]) = sumI l + x := by
      intro l x
      induction l with
      | nil => simp [sumI]
      | cons y l ih => simp only [sumI, List.cons_append, List.foldr_cons] at ih ⊢; omega
    rw [List.range_succ, List.map_append, List.map_cons, List.map_nil, happ, sum_ind a N]
    by_cases h1 : a = (N : Int)
    · rw [if_pos h1, if_neg (by omega), if_pos (by omega)]; rfl
    · rw [if_neg h1]
      by_cases h2 : 0 ≤ a ∧ a < N
      · rw [if_pos h2, if_pos (by omega)]; rfl
      · rw [if_neg h2, if_neg (by omega)]; rfl
theorem sumI_add {α : Type} (f g : α → Int) : ∀ l : List α, sumI (l.map fun x => f x + g x) = sumI (l.map f) + sumI (l.map g)
  | [] => rfl
  | x :: l => by
    have := sumI_add f g l
    simp only [sumI, List.map_cons, List.foldr_cons] at this ⊢
    omega
theorem sumI_zero {α : Type} : ∀ l : List α, sumI (l.map fun _ => (0 : Int)) = 0
  | [] => rfl
  | x :: l => by have := sumI_zero l; simp only [sumI, List.map_cons, List.foldr_cons] at this ⊢; omega
/-- the column's sum is the count -/
theorem col_sum (N : Nat) (j : Int) : ∀ ties : List (Int × Int), (∀ p ∈ ties, p.1 ≠ p.2 ∧ (0 ≤ p.1 ∧ p.1 < N) ∧ (0 ≤ p.2 ∧ p.2 < N)) → sumI ((nbs N ties).map fun T => totT T (kf j)) = cnt j ties
  | [], _ => by
    unfold nbs
    rw [List.map_map]
    exact sumI_zero _
  | p :: l, h => by
    have ih := col_sum N j l fun q hq => h q (.tail _ hq)
    obtain ⟨hne, hr1, hr2⟩ := h p (.head _)
    have hn := fun q hq => (h q hq).1
    unfold nbs at ih ⊢
    rw [List.map_map] at ih ⊢
    have e : ((fun T => totT T (kf j)) ∘ fun (i : Nat) => nb (i : Int) (p :: l)) = fun (i : Nat) => ((if p.1 = (i : Int) then (if p.2 = j then (1 : Int) else 0) else 0) + (if p.2 = (i : Int) then (if p.1 = j then 1 else 0) else 0)) + ((fun T => totT T (kf j)) ∘ fun (i : Nat) => nb (i : Int) l) i := by
      funext i
      simp only [Function.comp]
      rw [totT_nb _ _ _ hn, totT_nb _ _ _ fun q hq => hn q (.tail _ hq), List.map_cons, List.foldr_cons]
      by_cases h1 : p.1 = (i : Int)
      · have h2 : ¬ p.2 = (i : Int) := fun e => hne (h1.trans e.symm)
        simp only [h1, h2, if_true, if_false]; omega
      · simp only [h1, if_false]; omega
    rw [e, sumI_add, sumI_add, ih, cnt]
    have c1 : sumI ((List.range N).map fun (i : Nat) => if p.1 = (i : Int) then (if p.2 = j then (1 : Int) else 0) else 0) = if p.2 = j then 1 else 0 := by
      by_cases hj : p.2 = j
      · simp only [hj, if_true]; rw [sum_ind, if_pos hr1]
      · simp only [hj, if_false, ite_self]; exact sumI_zero _
    have c2 : sumI ((List.range N).map fun (i : Nat) => if p.2 = (i : Int) then (if p.1 = j then (1 : Int) else 0) else 0) = if p.1 = j then 1 else 0 := by
      by_cases hj : p.1 = j
      · simp only [hj, if_true]; rw [sum_ind, if_pos hr2]
      · simp only [hj, if_false, ite_self]; exact sumI_zero _
    rw [c1, c2]
    by_cases h1 : p.1 = j
    · have h2 : ¬ p.2 = j := fun e => hne (h1.trans e.symm)
      simp only [h1, h2, if_true, if_false, true_or]; omega
    · by_cases h2 : p.2 = j
      · simp only [h1, h2, if_true, if_false, or_true]; omega
      · simp only [h1, h2, if_false, or_self]; omega
theorem cnt_total (N : Nat) : ∀ ties : List (Int × Int), (∀ p ∈ ties, p.1 ≠ p.2 ∧ (0 ≤ p.1 ∧ p.1 < N) ∧ (0 ≤ p.2 ∧ p.2 < N)) → sumI ((List.range N).map fun (i : Nat) => cnt (i : Int) ties) = 2 * (ties.length : Int)
  | [], _ => sumI_zero _
  | p :: l, h => by
    have ih := cnt_total N l fun q hq => h q (.tail _ hq)
    obtain ⟨hne, hr1, hr2⟩ := h p (.head _)
    have e : (fun (i : Nat) => cnt (i : Int) (p :: l)) = fun (i : Nat) => ((if p.1 = (i : Int) then (1 : Int) else 0) + (if p.2 = (i : Int) then 1 else 0)) + cnt (i : Int) l := by
      funext i
      simp only [cnt]
      by_cases h1 : p.1 = (i : Int)
      · have h2 : ¬ p.2 = (i : Int) := fun e => hne (h1.trans e.symm)
        simp only [h1, h2, if_true, if_false, true_or]; omega
      · by_cases h2 : p.2 = (i : Int)
        · simp only [h1, h2, if_true, if_false, or_true]; omega
        · simp only [h1, h2, if_false, or_self]; omega
    rw [e, sumI_add, sumI_add, ih, sum_ind, sum_ind, if_pos hr1, if_pos hr2]
    simp only [List.length_cons]; omega
theorem whole_props {ds : List Int} (hd : Degs ds) {ties : List (Int × Int)} (h : tied ds = some ties) : sumT (wholeT (thereR ds ties)) = sumI ((thereR ds ties).map sumT) ∧ ((wholeT (thereR ds ties)).map (·.1)).Nodup ∧
    (∀ x, x ∈ (wholeT (thereR ds ties)).map (·.1) ↔ ∃ T ∈ thereR ds ties, x ∈ T.map (·.1)) ∧ ∀ x, (getT (wholeT (thereR ds ties)) x).getD 0 = sumI ((thereR ds ties).map fun T => totT T x) := by
  obtain ⟨a1, a2, a3, a4⟩ := whole_sum (thereR ds ties) [] (by simp)
  refine ⟨by rw [show wholeT (thereR ds ties) = (thereR ds ties).foldl mergeT [] from rfl, a1]; simp [sumT], a2, fun x => ?_, fun x => ?_⟩
  · rw [show wholeT (thereR ds ties) = (thereR ds ties).foldl mergeT [] from rfl, a3]; simp
  · rw [show wholeT (thereR ds ties) = (thereR ds ties).foldl mergeT [] from rfl, a4]; simp [getT]
theorem total_eq {ds : List Int} (hd : Degs ds) {ties : List (Int × Int)} (h : tied ds = some ties) : sumI ds = 2 * (ties.length : Int) := by
  obtain ⟨hok, hc⟩ := ok_of hd h
  have e := cnt_total ds.length ties hok.1
  rw [← e]
  congr 1
  have := p_count hd h
  rw [there_nbs hok] at this
  unfold nbs at this
  rw [List.map_map] at this
  rw [← this]
  simp only [List.length_map, List.length_range]
  refine List.map_congr_left fun i _ => ?_
  simp only [Function.comp, sumT_nb]
theorem p_total {ds : List Int} (hd : Degs ds) {ties : List (Int × Int)} (h : tied ds = some ties) : sumT (wholeT (thereR ds ties)) = 2 * (ties.length : Int) := by
  rw [(whole_props hd h).1, p_count hd h, total_eq hd h]
theorem p_len {ds : List Int} (hd : Degs ds) {ties : List (Int × Int)} (h : tied ds = some ties) : ties.length ≤ 49 := by
  have e := total_eq hd h
  have hb : ∀ l : List Int, (∀ d ∈ l, d ≤ 6) → sumI l ≤ 6 * (l.length : Int) := by
    intro l
    induction l with
    | nil => intro _; simp [sumI]
    | cons x l ih =>
      intro hl
      have h1 := ih fun d hd => hl d (.tail _ hd)
      have h2 := hl x (.head _)
      simp only [sumI, List.foldr_cons, List.length_cons] at h1 ⊢
      omega
  have h1 := hb ds fun d hm => (hd.2 d hm).2
  have h2 := hd.1
  omega
theorem degT_snoc {ds : List Int} {j : Nat} {d : Int} (h : ds[j]? = some d) : degT (ds.take (j + 1)) = if d > 0 then degT (ds.take j) ++ [(kf j, d)] else degT (ds.take j) := by
  have hj := (List.getElem?_eq_some_iff.mp h).1
  have e1 : ds.take (j + 1) = ds.take j ++ [d] := by simp [List.take_add_one, h]
  have e2 : (ds.take j).length = j := by rw [List.length_take]; omega
  have e3 : ((List.range j ++ [j]).zip (ds.take j ++ [d])) = (List.range j).zip (ds.take j) ++ [(j, d)] := by
    rw [List.zip_append (by simp [e2])]; rfl
  unfold degT
  rw [e1, List.length_append, List.length_singleton, e2, List.range_succ, e3, List.filterMap_append]
  by_cases hd : d > 0 <;> simp [hd]
theorem degT_mem (ds : List Int) : ∀ j : Nat, j ≤ ds.length → ((degT (ds.take j)).map (·.1)).Nodup ∧ ∀ t, t ∈ degT (ds.take j) ↔ ∃ i d, i < j ∧ ds[i]? = some d ∧ d > 0 ∧ t = (kf (i : Nat), d)
  | 0, _ => by
    refine ⟨by simp [degT], fun t => ⟨fun h => by simp [degT] at h, fun ⟨i, d, hi, _⟩ => absurd hi (Nat.not_lt_zero _)⟩⟩
  | j + 1, h => by
    obtain ⟨h1, h2⟩ := degT_mem ds j (Nat.le_of_succ_le h)
    have hg : ds[j]? = some ds[j] := List.getElem?_eq_getElem h
    rw [degT_snoc hg]
    by_cases hp : ds[j] > 0
    · rw [if_pos hp]
      refine ⟨?_, fun t => ?_⟩
      · rw [List.map_append, List.nodup_append]
        refine ⟨h1, by simp, fun a ha b hb e => ?_⟩
        obtain ⟨t, ht, rfl⟩ := List.mem_map.mp ha
        obtain ⟨i, d, hi, _, _, rfl⟩ := (h2 t).mp ht
        simp only [List.map_cons, List.map_nil, List.mem_singleton] at hb
        have := kf_inj (e.trans hb)
        omega
      · rw [List.mem_append, h2, List.mem_singleton]
        constructor
        · rintro (⟨i, d, hi, r⟩ | rfl)
          · exact ⟨i, d, by omega, r⟩
          · exact ⟨j, _, Nat.lt_succ_self j, hg, hp, rfl⟩
        · rintro ⟨i, d, hi, hd, hdp, rfl⟩
          rcases Nat.lt_or_ge i j with hij | hij
          · exact .inl ⟨i, d, hij, hd, hdp, rfl⟩
          · obtain rfl : i = j := by omega
            rw [hg] at hd
            obtain rfl := Option.some.inj hd
            exact .inr rfl
    · rw [if_neg hp]
      refine ⟨h1, fun t => ?_⟩
      rw [h2]
      constructor
      · rintro ⟨i, d, hi, r⟩
        exact ⟨i, d, by omega, r⟩
      · rintro ⟨i, d, hi, hd, hdp, rfl⟩
        rcases Nat.lt_or_ge i j with hij | hij
        · exact ⟨i, d, hij, hd, hdp, rfl⟩
        · obtain rfl : i = j := by omega
          rw [hg] at hd
          obtain rfl := Option.some.inj hd
          exact absurd hdp hp
theorem cnt_pos {j : Int} : ∀ {ties : List (Int × Int)}, (∃ p ∈ ties, p.1 = j ∨ p.2 = j) ↔ cnt j ties > 0
  | [] => by simp [cnt]
  | p :: l => by
    have ih := cnt_pos (j := j) (ties := l)
    have hnn : ∀ l : List (Int × Int), 0 ≤ cnt j l := by
      intro l
      induction l with
      | nil => simp [cnt]
      | cons q l ih => simp only [cnt]; split <;> omega
    have h0 := hnn l
    simp only [cnt, List.mem_cons, exists_eq_or_imp]
    rw [ih]
    by_cases hp : p.1 = j ∨ p.2 = j
    · simp only [hp, if_true, true_or, true_iff]; omega
    · simp only [hp, if_false, false_or]; omega
theorem p_whole {ds : List Int} (hd : Degs ds) {ties : List (Int × Int)} (h : tied ds = some ties) : SameT (wholeT (thereR ds ties)) (dictT (degT ds)) := by
  obtain ⟨hok, hc⟩ := ok_of hd h
  obtain ⟨_, w2, w3, w4⟩ := whole_props hd h
  obtain ⟨d1, d2⟩ := degT_mem ds ds.length (Nat.le_refl _)
  rw [List.take_length] at d1 d2
  rw [show dictT (degT ds) = degT ds from copyT_eq d1]
  rw [there_nbs hok] at w2 w3 w4 ⊢
  have hval : ∀ j : Int, (getT (wholeT (nbs ds.length ties)) (kf j)).getD 0 = cnt j ties := fun j => by rw [w4, col_sum _ _ _ hok.1]
  have inD : ∀ j : Int, cnt j ties > 0 → (kf j, cnt j ties) ∈ degT ds := by
    intro j hj
    have hcj := hc j
    by_cases hr : 0 ≤ j ∧ j < ds.length
    · rw [if_pos hr] at hcj
      have hlt : j.toNat < ds.length := by omega
      have hg : ds[j.toNat]? = some ds[j.toNat] := List.getElem?_eq_getElem hlt
      have e : ds.getD j.toNat 0 = ds[j.toNat] := by rw [List.getD_eq_getElem?_getD, hg]; rfl
      rw [e] at hcj
      refine (d2 _).mpr ⟨j.toNat, ds[j.toNat], hlt, hg, by omega, ?_⟩
      rw [hcj, show ((j.toNat : Nat) : Int) = j from by omega]
    · rw [if_neg hr] at hcj; omega
  have keyW : ∀ x, x ∈ (wholeT (nbs ds.length ties)).map (·.1) → ∃ j, x = kf j ∧ cnt j ties > 0 := by
    intro x hx
    obtain ⟨T, hT, hxT⟩ := (w3 x).mp hx
    obtain ⟨i, _, rfl⟩ := List.mem_map.mp hT
    obtain ⟨j, rfl, hj⟩ := nb_keys hxT
    exact ⟨j, rfl, cnt_pos.mp hj⟩
  have keyD : ∀ x, x ∈ (degT ds).map (·.1) → x ∈ (wholeT (nbs ds.length ties)).map (·.1) := by
    intro x hx
    obtain ⟨t, ht, rfl⟩ := List.mem_map.mp hx
    obtain ⟨i, d, hi, hg, hdp, rfl⟩ := (d2 t).mp ht
    have hci := hc (i : Int)
    rw [if_pos (by omega)] at hci
    have e : ds.getD ((i : Int)).toNat 0 = d := by rw [Int.toNat_natCast, List.getD_eq_getElem?_getD, hg]; rfl
    rw [e] at hci
    obtain ⟨p, hp, hpi⟩ := cnt_pos.mpr (show cnt (i : Int) ties > 0 by omega)
    obtain ⟨hne, hr1, hr2⟩ := hok.1 p hp
    refine (w3 _).mpr ?_
    have mk : ∀ (a b : Int), (0 ≤ a ∧ a < ds.length) → nb1 a p = some (kf b, 1) → ∃ T ∈ nbs ds.length ties, kf b ∈ T.map (·.1) := by
      intro a b ha hn
      refine ⟨nb a ties, List.mem_map.mpr ⟨a.toNat, List.mem_range.mpr (by omega), by congr 1; omega⟩, ?_⟩
      exact List.mem_map.mpr ⟨(kf b, 1), List.mem_filterMap.mpr ⟨p, hp, hn⟩, rfl⟩
    rcases hpi with e1 | e1
    · rw [← e1]; exact mk p.2 p.1 hr2 (by simp [nb1, hne])
    · rw [← e1]; exact mk p.1 p.2 hr1 (by simp [nb1])
  refine ⟨?_, ?_⟩
  · have hperm : ((wholeT (nbs ds.length ties)).map (·.1)).Perm ((degT ds).map (·.1)) := by
      refine (List.perm_ext_iff_of_nodup w2 d1).mpr fun x => ⟨fun hx => ?_, keyD x⟩
      obtain ⟨j, rfl, hj⟩ := keyW x hx
      exact List.mem_map.mpr ⟨_, inD j hj, rfl⟩
    simpa using hperm.length_eq
  · intro t ht
    have hg := getT_self w2 ht
    obtain ⟨j, hj, hcp⟩ := keyW t.1 (List.mem_map.mpr ⟨t, ht, rfl⟩)
    have hv := hval j
    rw [← hj, hg] at hv
    have e : t.2 = cnt j ties := hv
    have := getT_self d1 (inD j hcp)
    rw [hj, e]; exact this
end Mine
end TPlb
section TLaw
set_option autoImplicit false
namespace Mine
theorem fmod7 (k : Int) : 0 ≤ k.fmod 7 ∧ k.fmod 7 ≤ 6 := by
  rw [Int.fmod_eq_emod_of_nonneg k (by decide)]
  omega
theorem degs_of (l : List Int) : Degs ((l.take 7).map fun k => k.fmod 7) := by
  refine ⟨by rw [List.length_map, List.length_take]; omega, ?_⟩
  intro d hd
  obtain ⟨k, _, rfl⟩ := List.mem_map.mp hd
  exact fmod7 k
theorem dep_law (e : Env) : (callerA.deeper e).depth + 20 < recursionLimit := by rw [depth_deeper, depth_caller]; decide
theorem un_law (e : Env) : (callerA.deeper e).units + 150 < cLine := by rw [units_deeper, units_caller]; decide
theorem news_lst {h₀ h : Heap} {L a : Addr} {items : List Value} {news : List (Addr × Obj)} (N : News h₀ L h news) (hm : (a, LCg.lst items) ∈ news) : h.IsList a items.toArray := ⟨_, (N _ hm).1, rfl, _, rfl⟩
theorem fresh_of {h₀ h : Heap} {L a : Addr} {m : Str → Option Value} (F : Fr h₀ L h m) (ha : h.get? a = none) : a ≠ L ∧ h₀.get? a = none := by
  refine ⟨?_, ?_⟩
  · rintro rfl
    obtain ⟨oL, _, _, hL, _⟩ := F.ns
    rw [ha] at hL; cases hL
  · cases e : h₀.get? a with
    | none => rfl
    | some o => rw [F.keep a o e] at ha; cases ha
theorem news_tied {h₀ h h' : Heap} {L al dl : Addr} {o od : Obj} {m : Str → Option Value} {news tups : List (Addr × Obj)} (F : Fr h₀ L h m) (N : News h₀ L h news) (up : h.StaysIn h') (hal : h'.get? al = some o) (h0 : h.get? al = none)
    (htu : ∀ q ∈ tups, h'.get? q.1 = some q.2 ∧ h.get? q.1 = none) (hd : (dl, od) ∈ news) : News h₀ L h' ((al, o) :: (dl, od) :: tups) := by
  refine news_cons hal (fresh_of F h0).1 (fresh_of F h0).2 (news_cons (up _ _ (N _ hd).1) (N _ hd).2.1 (N _ hd).2.2 fun q hq => ⟨(htu q hq).1, (fresh_of F (htu q hq).2).1, (fresh_of F (htu q hq).2).2⟩)
theorem un_law0 (e : Env) : (callerA.deeper e).units < cLine := by rw [units_deeper, units_caller]; decide
theorem un_law10 (e : Env) : (callerA.deeper e).units + 10 < cLine := by rw [units_deeper, units_caller]; decide
theorem comp_new {h₀ h : Heap} {L C D : Addr} {oC oD : Obj} {own nx new : List (Addr × Obj)} {wr : List Addr} (N : News h₀ L h (new ++ (own ++ (C, oC) :: (D, oD) :: nx)))
    (hlt : ∀ q ∈ new, ∀ p ∈ own ++ (C, oC) :: (D, oD) :: nx, @LT.lt Nat _ p.1 q.1) (hown : ∀ b ∈ wr, ∃ o, (b, o) ∈ own) (hoff : ∀ q ∈ nx, q.1 ∉ wr ∧ q.1 ≠ C ∧ q.1 ≠ D) :
    News h₀ L h (own ++ (C, oC) :: (D, oD) :: (new ++ nx)) ∧ ∀ q ∈ new ++ nx, q.1 ∉ wr ∧ q.1 ≠ C ∧ q.1 ≠ D := by
  refine ⟨N.perm ?_, ?_⟩
  · intro p hp
    simp only [List.mem_append, List.mem_cons] at hp ⊢
    rcases hp with hp | hp | hp | hp | hp <;> simp [hp]
  · intro q hq
    rcases List.mem_append.mp hq with hq | hq
    · refine ⟨fun hw => ?_, fun e => ?_, fun e => ?_⟩
      · obtain ⟨o, ho⟩ := hown _ hw
        exact Nat.lt_irrefl _ (hlt q hq (q.1, o) (List.mem_append_left _ ho))
      · exact Nat.lt_irrefl _ (e ▸ hlt q hq (C, oC) (List.mem_append_right _ (.head _)))
      · exact Nat.lt_irrefl _ (e ▸ hlt q hq (D, oD) (List.mem_append_right _ (.tail _ (.head _))))
    · exact hoff q hq
theorem mmT_snoc {ties : List (Int × Int)} {j : Nat} {p : Int × Int} (h : ties[j]? = some p) : mmT (ties.take (j + 1)) = mmT (ties.take j) ++ [([.n (min p.1 p.2), .n (max p.1 p.2)], 1)] := by
  rw [List.take_add_one, h]; simp [mmT]
theorem rows_ref {Rl : Value → Tb → Prop} {refs : List Value} {R : List Tb} (h : All2 Rl refs R) {k : Int} (hk : k.toNat < R.length) : ∃ v, refs[k.toNat]? = some v ∧ Rl v (atR R k) := by
  obtain ⟨v, hv, hr⟩ := h.get hk
  exact ⟨v, hv, by unfold atR; rw [List.getD_eq_getElem?_getD, List.getElem?_eq_getElem hk]; exact hr⟩
theorem stepT_len (R : List Tb) (p : Int × Int) : (stepT R p).length = R.length := by simp [stepT]
theorem stepB_len (R : List Tb) (p : Int × Int) : (stepB R p).length = R.length := by simp [stepB]
theorem foldT_len (l : List (Int × Int)) : ∀ R : List Tb, (l.foldl stepT R).length = R.length := by
  induction l with
  | nil => intro R; rfl
  | cons p l ih => intro R; rw [List.foldl_cons, ih, stepT_len]
theorem foldB_len (l : List (Int × Int)) : ∀ R : List Tb, (l.foldl stepB R).length = R.length := by
  induction l with
  | nil => intro R; rfl
  | cons p l ih => intro R; rw [List.foldl_cons, ih, stepB_len]
theorem loop_new {h₀ h : Heap} {L a b : Addr} {oa ob : Obj} {own imm new : List (Addr × Obj)} {wr : List Addr} (N : News h₀ L h (new ++ (own ++ (a, oa) :: (b, ob) :: imm)))
    (hne : ∀ q ∈ new, ∀ p ∈ own ++ (a, oa) :: (b, ob) :: imm, p.1 ≠ q.1) (hown : ∀ b ∈ wr, ∃ o, (b, o) ∈ own) (hnw : ∀ q ∈ (a, oa) :: (b, ob) :: imm, q.1 ∉ wr) (hap : ∀ q ∈ imm, q.1 ≠ a ∧ q.1 ≠ b) :
    News h₀ L h (own ++ (a, oa) :: (b, ob) :: (new ++ imm)) ∧ (∀ q ∈ (a, oa) :: (b, ob) :: (new ++ imm), q.1 ∉ wr) ∧ (∀ q ∈ new ++ imm, q.1 ≠ a ∧ q.1 ≠ b) := by
  refine ⟨N.perm ?_, ?_, ?_⟩
  · intro p hp
    simp only [List.mem_append, List.mem_cons] at hp ⊢
    rcases hp with hp | hp | hp | hp | hp <;> simp [hp]
  · intro q hq
    rcases List.mem_cons.mp hq with rfl | hq
    · exact hnw _ (.head _)
    rcases List.mem_cons.mp hq with rfl | hq
    · exact hnw _ (.tail _ (.head _))
    rcases List.mem_append.mp hq with hq | hq
    · intro hw
      obtain ⟨o, ho⟩ := hown _ hw
      exact hne q hq (q.1, o) (List.mem_append_left _ ho) rfl
    · exact hnw _ (.tail _ (.tail _ hq))
  · intro q hq
    rcases List.mem_append.mp hq with hq | hq
    · exact ⟨fun e => hne q hq (a, oa) (List.mem_append_right _ (.head _)) e.symm, fun e => hne q hq (b, ob) (List.mem_append_right _ (.tail _ (.head _))) e.symm⟩
    · exact hap q hq
theorem key_items {prog : Program} {w : World} {i : Int} {t1 t2 t3 : Tok} : ItemsAre (mix prog w) (kf i) [.str (Str.ofString "f") t1, .int i t2, .str (Str.ofString "g") t3] :=
  .cons (by simp [mix, MK.is, Value.isStrOf]) (.cons (by simp [mix, MK.is, Value.isInt]) (.cons (by simp [mix, MK.is, Value.isStrOf]) .nil))
theorem rows_le {f : List Tb → Int × Int → List Tb} {c : Nat} (hf : ∀ R p b, (∀ T ∈ R, T.length ≤ b) → ∀ T ∈ f R p, T.length ≤ b + c) (l : List (Int × Int)) : ∀ (R : List Tb) (b : Nat), (∀ T ∈ R, T.length ≤ b) → ∀ T ∈ l.foldl f R, T.length ≤ b + c * l.length := by
  induction l with
  | nil => intro R b h T hT; have := h T hT; omega
  | cons p l ih =>
    intro R b h T hT
    have := ih _ _ (hf R p b h) T hT
    simp only [List.length_cons]
    rw [Nat.mul_succ]
    omega
theorem merge_le (T₁ T₂ : Tb) : (mergeT T₁ T₂).length ≤ T₁.length + T₂.length := fold_length_le addT_length_le T₂ T₁
theorem atR_le {R : List Tb} {b : Nat} (h : ∀ T ∈ R, T.length ≤ b) (k : Int) : (atR R k).length ≤ b := by
  unfold atR
  rw [List.getD_eq_getElem?_getD]
  cases e : R[k.toNat]? with
  | none => simp
  | some T => exact h T (List.mem_of_getElem? e)
theorem stepT_le (R : List Tb) (p : Int × Int) (b : Nat) (h : ∀ T ∈ R, T.length ≤ b) : ∀ T ∈ stepT R p, T.length ≤ b + 1 := by
  intro T hT
  unfold stepT at hT
  rcases List.mem_or_eq_of_mem_set hT with hT | rfl
  · rcases List.mem_or_eq_of_mem_set hT with hT | rfl
    · exact Nat.le_succ_of_le (h T hT)
    · have h1 := merge_le (atR R p.1) [(kf p.2, 1)]
      have h2 := atR_le h p.1
      simp only [List.length_cons, List.length_nil] at h1
      omega
  · have h1 := merge_le (atR R p.2) [(kf p.1, 1)]
    have h2 := atR_le h p.2
    simp only [List.length_cons, List.length_nil] at h1
    omega
theorem stepB_le (R : List Tb) (p : Int × Int) (b : Nat) (h : ∀ T ∈ R, T.length ≤ b) : ∀ T ∈ stepB R p, T.length ≤ b + 1 := by
  intro T hT
  unfold stepB at hT
  rcases List.mem_or_eq_of_mem_set hT with hT | rfl
  · rcases List.mem_or_eq_of_mem_set hT with hT | rfl
    · exact Nat.le_succ_of_le (h T hT)
    · have h1 := merge_le [(kf p.1, 1)] (atR R p.2)
      have h2 := atR_le h p.2
      simp only [List.length_cons, List.length_nil] at h1
      omega
  · have h1 := merge_le [(kf p.2, 1)] (atR R p.1)
    have h2 := atR_le h p.1
    simp only [List.length_cons, List.length_nil] at h1
    omega
theorem nils_le (ds : List Int) : ∀ T ∈ nils ds, T.length ≤ 0 := by
  intro T hT
  rw [(List.mem_replicate.mp hT).2]; exact Nat.le_refl _
theorem foldT_le (ds : List Int) (l : List (Int × Int)) (k : Int) : (atR (l.foldl stepT (nils ds)) k).length ≤ l.length := by
  have := atR_le (rows_le (c := 1) stepT_le l (nils ds) 0 (nils_le ds)) k
  omega
theorem foldB_le (ds : List Int) (l : List (Int × Int)) (k : Int) : (atR (l.foldl stepB (nils ds)) k).length ≤ l.length := by
  have := atR_le (rows_le (c := 1) stepB_le l (nils ds) 0 (nils_le ds)) k
  omega
theorem split_key {prog : Program} {w : World} {h₀ h : Heap} {L K d : Addr} {oK oD : Obj} {ks : List MK} {base : List (Addr × Obj)} (N : News h₀ L h ((K, oK) :: (d, oD) :: base)) (hk : TupKeyObj (mix prog w) ks oK) :
    ∃ oK', TupKeyObj (mix prog w) ks oK' ∧ News h₀ L h ((K, oK') :: (d, oD) :: base) := ⟨oK, hk, N⟩
theorem un_in1 (e : Env) : (callerA.deeper e).in1.units + 10 < cLine := by rw [units_in1, units_deeper, units_caller]; decide
theorem ints_same {prog : Program} {w : World} {A : Around} {E : Value → Shared → Prop} {s : Shared} {a b : Addr} {vs us : List Value} {ns : List Int} {Q : Value → Shared → Prop} (hl : s.heap.IsList a vs.toArray) (hb : s.heap.IsList b us.toArray)
    (h1 : IntsAre vs ns) (h2 : IntsAre us ns) (hu : A.units < cLine) (h : Q (.bool false) s) : wpAny (model prog w) A (compareOp .NotEq (.ref a) (.ref b)) Q E s := by
  refine lists_same hl hb (by simp [h1.length, h2.length]) hu (fun j i1 i2 => ?_) h
  obtain ⟨n, t, e1, hn⟩ := h1.at j vs.toArray[j] (by simp at i1 ⊢)
  obtain ⟨n', t', e2, hn'⟩ := h2.at j us.toArray[j] (by simp at i2 ⊢)
  rw [hn] at hn'
  obtain rfl := Option.some.inj hn'
  rw [e1, e2]
  exact fun E Q h => SeqAt.EqAt.int_int _ _ _ _ prog w _ _ (by simpa using h)
theorem rows_same {prog : Program} {w : World} {A : Around} {E : Value → Shared → Prop} {s : Shared} {a b : Addr} {vs us : List Value} {R S : List Tb} {imm : List (Addr × Obj)} {h₀ : Heap} {L : Addr} {Q : Value → Shared → Prop} (N : News h₀ L s.heap imm) (hl : s.heap.IsList a vs.toArray) (hb : s.heap.IsList b us.toArray)
    (h1 : All2 (RowIn prog w imm) vs R) (h2 : All2 (RowIn prog w imm) us S) (hs : All2 SameT R S) (hu : A.units < cLine) (hu1 : A.in1.units + 10 < cLine) (h : Q (.bool false) s) : wpAny (model prog w) A (compareOp .NotEq (.ref a) (.ref b)) Q E s := by
  refine lists_same hl hb (by simp [h1.length, h2.length, hs.length]) hu (fun j i1 i2 => ?_) h
  obtain ⟨T1, hT1, d1, o1, e1, m1, l1, t1⟩ := h1.get? (i := j) (a := vs.toArray[j]) (by simp at i1 ⊢)
  obtain ⟨T2, hT2, d2, o2, e2, m2, l2, t2⟩ := h2.get? (i := j) (a := us.toArray[j]) (by simp at i2 ⊢)
  obtain ⟨T3, hT3, hss⟩ := hs.get? hT1
  rw [hT2] at hT3
  obtain rfl := Option.some.inj hT3
  rw [e1, e2]
  exact tab_eqIn l1 l2 (N _ m1).1 (N _ m2).1 t1 t2 (fun _ _ k => k.key N) (fun _ _ k => k.key N) hu1 hss
theorem whole_le {b : Nat} (R : List Tb) : (∀ T ∈ R, T.length ≤ b) → ∀ S : Tb, (R.foldl mergeT S).length ≤ S.length + b * R.length := by
  induction R with
  | nil => intro _ S; simp
  | cons T R ih =>
    intro h S
    have h1 := ih (fun T hT => h T (.tail _ hT)) (mergeT S T)
    have h2 := merge_le S T
    have h3 := h T (.head _)
    simp only [List.foldl_cons, List.length_cons]
    rw [Nat.mul_succ]
    omega
theorem there_le (ds : List Int) (ties : List (Int × Int)) : ∀ T ∈ thereR ds ties, T.length ≤ ties.length := by
  intro T hT
  have := rows_le (c := 1) stepT_le ties (nils ds) 0 (nils_le ds) T hT
  omega
theorem degT_le (ds : List Int) : (degT ds).length ≤ ds.length := by
  unfold degT
  refine Nat.le_trans (List.length_filterMap_le _ _) ?_
  simp
theorem new_tuple {prog : Program} {w : World} {A : Around} {E : Value → Shared → Prop} {s : Shared} {h₀ : Heap} {L : Addr} {m : Str → Option Value} {news : List (Addr × Obj)} {vs : List Value} {Q : Value → Shared → Prop} (F : Fr h₀ L s.heap m) (N : News h₀ L s.heap news)
    (h : ∀ T h', Fr h₀ L h' m → News h₀ L h' ((T, tupO vs.toArray 0) :: news) → (∀ p ∈ news, @LT.lt Nat _ p.1 T) → Q (.ref T) { s with heap := h' }) (hz : vs.length ≤ 10 := by simp) : wpAny (model prog w) A (newTuple vs) Q E s := by
  refine wpAny_newTuple ?_ (by simp only [sizeLine_eq]; omega)
  exact h _ _ (F.push _) (News.push F N _) fun p hp => Heap.lt_size (N p hp).1
theorem fin_true {s₀ s₁ : Shared} {ns : List Int} {h' : Heap} {tk : Nat} {L : Addr} {m : Str → Option Value} (F : Fr s₁.heap L h' m) (hg : s₁.gens = #[]) :
    GoodW PySem.Challenge.rw_zs0001_01.row.claim (classAt s₀.heap) (ExcName.means s₀.heap) [ofPy (PyData.list (ns.map PyData.int))] s₁ (.ok (.ret (.bool true))) ⟨h', s₁.gens, s₁.drawn, tk, s₁.os⟩ := by
  refine goodW_bool F hg (raisesW_false ?_) ?_
  · wrow_none_raised
  · wrow_post
theorem law : PySem.Challenge.rw_zs0001_01.Holds := hd (by
  k_go0
  (all_goals try k_fold)
  repeat' (first | (k_unfold; (try dsimp only)) | ((fail_if_success (with_reducible show wpAny _ _ (getMethod (Value.ref _) (Str.ofString "items") _) _ _ _)); (fail_if_success (with_reducible show wpAny _ _ (getMethod (Value.ref _) (Str.ofString "values") _) _ _ _)); (fail_if_success (with_reducible show wpAny _ _ (call (Value.builtin "dict.items") _) _ _ _)); (fail_if_success (with_reducible show wpAny _ _ (call (Value.builtin "dict.values") _) _ _ _)); (fail_if_success (with_reducible show wpAny _ _ (compareOp CmpOp.In (Value.ref _) (Value.ref _)) _ _ _)); (fail_if_success (with_reducible show wpAny _ _ (setItem (Value.ref _) (Value.ref _) _) _ _ _)); (fail_if_success (with_reducible show wpAny _ _ (subscriptTail _ _ (Value.ref _) (Value.ref _)) _ _ _)); (fail_if_success (with_reducible show wpAny _ _ (eval (Expr.Name (Str.ofString "k") _) (compEnvC _ _ _ _)) _ _ _)); (fail_if_success (with_reducible show wpAny _ _ (call (Value.builtin "list.append") _ _) _ _ _)); (fail_if_success (with_reducible show wpAny _ _ (subscriptTail _ (Expr.Slice _ _ _ _) (Value.ref _) (Value.ref _)) _ _ _)); (fail_if_success (with_reducible show wpAny _ _ (compareOp CmpOp.NotEq (Value.ref _) (Value.ref _)) _ _ _)); (fail_if_success (with_reducible show wpAny _ _ (compareOp CmpOp.Eq (Value.ref _) (Value.ref _)) _ _ _)); (fail_if_success (with_reducible show wpAny _ _ (compareOp CmpOp.Lt (Value.ref _) (Value.ref _)) _ _ _)); (fail_if_success (with_reducible show wpAny _ _ (call (Value.type "enumerate") _ _) _ _ _)); (fail_if_success (with_reducible show wpAny _ _ (exec (Stmt.While _ _ _ _) _) _ _ _)); (fail_if_success (with_reducible show wpAny _ _ (exec (Stmt.For _ _ _ _ _) _) _ _ _)); (fail_if_success (with_reducible show wpAny _ _ (call (Value.ref _) _ _) _ _ _)); (fail_if_success (with_reducible show wpAny _ _ (eval (Expr.ListComp _ _ _ _) _) _ _ _)); walk1; (try dsimp only)))
  rename Frag.In _ _ => X0
  rename Ground _ _ _ _ _ _ _ _ _ => G0
  have hbig := G0.low
  rename World => w0
  rename Top _ _ _ _ _ _ => T0
  rename Fr _ _ _ _ => F2
  rename News _ _ _ _ => N2
  rename List Value => vds
  rename_i hi _ dl _ _ _
  obtain ⟨sc, F2⟩ : ∃ sc, Fr _ _ _ (fun z => if z = (Str.ofString "degrees") then some (Value.ref dl) else (fun x => List.lookup x [((Str.ofString "script"), Value.ref sc)].reverse) z) := ⟨_, F2⟩
  obtain ⟨ds, hds, hi'⟩ : ∃ ds, Degs ds ∧ IntsAre vds ds := ⟨_, degs_of _, hi⟩
  clear hi
  refine tied_spec (X0.keeps F2.keep) (T0.keeps F2.keep) (vs := vds) (news_lst N2 (.head _)) hi' (fun d h => (hds.2 d h).1) hds.1 (by decide) (by decide) ?_
  intro v h3 tk3 up3 hres
  cases htd : tied ds with
  | none =>
    rw [htd] at hres
    replace hres : v = .none := hres
    subst hres
    have F3 := F2.keeps up3
    have N3 := N2.keeps up3
    clear F2 N2
    clear up3
    repeat' (first | (k_unfold; (try dsimp only)) | ((fail_if_success (with_reducible show wpAny _ _ (getMethod (Value.ref _) (Str.ofString "items") _) _ _ _)); (fail_if_success (with_reducible show wpAny _ _ (getMethod (Value.ref _) (Str.ofString "values") _) _ _ _)); (fail_if_success (with_reducible show wpAny _ _ (call (Value.builtin "dict.items") _) _ _ _)); (fail_if_success (with_reducible show wpAny _ _ (call (Value.builtin "dict.values") _) _ _ _)); (fail_if_success (with_reducible show wpAny _ _ (compareOp CmpOp.In (Value.ref _) (Value.ref _)) _ _ _)); (fail_if_success (with_reducible show wpAny _ _ (setItem (Value.ref _) (Value.ref _) _) _ _ _)); (fail_if_success (with_reducible show wpAny _ _ (subscriptTail _ _ (Value.ref _) (Value.ref _)) _ _ _)); (fail_if_success (with_reducible show wpAny _ _ (eval (Expr.Name (Str.ofString "k") _) (compEnvC _ _ _ _)) _ _ _)); (fail_if_success (with_reducible show wpAny _ _ (call (Value.builtin "list.append") _ _) _ _ _)); (fail_if_success (with_reducible show wpAny _ _ (subscriptTail _ (Expr.Slice _ _ _ _) (Value.ref _) (Value.ref _)) _ _ _)); (fail_if_success (with_reducible show wpAny _ _ (compareOp CmpOp.NotEq (Value.ref _) (Value.ref _)) _ _ _)); (fail_if_success (with_reducible show wpAny _ _ (compareOp CmpOp.Eq (Value.ref _) (Value.ref _)) _ _ _)); (fail_if_success (with_reducible show wpAny _ _ (compareOp CmpOp.Lt (Value.ref _) (Value.ref _)) _ _ _)); (fail_if_success (with_reducible show wpAny _ _ (call (Value.type "enumerate") _ _) _ _ _)); (fail_if_success (with_reducible show wpAny _ _ (exec (Stmt.While _ _ _ _) _) _ _ _)); (fail_if_success (with_reducible show wpAny _ _ (exec (Stmt.For _ _ _ _ _) _) _ _ _)); (fail_if_success (with_reducible show wpAny _ _ (call (Value.ref _) _ _) _ _ _)); (fail_if_success (with_reducible show wpAny _ _ (eval (Expr.ListComp _ _ _ _) _) _ _ _)); (fail_if_success (with_reducible show wpAny _ _ (subscriptTail _ _ (Value.ref _) (Value.int _ _)) _ _ _)); (fail_if_success (with_reducible show wpAny _ _ (setItem (Value.ref _) (Value.int _ _) _) _ _ _)); (fail_if_success (with_reducible show TupStores _ _ _ _ _ _ _ _)); (fail_if_success (with_reducible show wpAny _ _ (call (Value.builtin "len") _ _) _ _ _)); (fail_if_success (with_reducible show wpAny _ _ (call (Value.builtin "min") _ _) _ _ _)); (fail_if_success (with_reducible show wpAny _ _ (call (Value.builtin "max") _ _) _ _ _)); (fail_if_success (with_reducible show wpAny _ _ (call (Value.type "dict") _ _) _ _ _)); (fail_if_success (with_reducible show wpAny _ _ (eval (Expr.Dict _ _ _) _) _ _ _)); walk1; (try dsimp only)))
    rename Fr _ _ _ _ => F4
    rename News _ _ _ _ => N4
    refine can_spec (X0.keeps F4.keep) (T0.keeps F4.keep) (vs := vds) (news_lst N4 (.head _)) hi' (fun d h => (hds.2 d h).1) hds.1 (by decide) (by decide) ?_
    intro b h5 tk5 up5 hb
    have F5 := F4.keeps up5
    have N5 := N4.keeps up5
    have hbb := p_can hds hb
    rw [htd] at hbb
    subst hbb
    clear up5 hb F4 N4
    dsimp only [Option.isSome]
    repeat' (first | (k_unfold; (try dsimp only)) | ((fail_if_success (with_reducible show wpAny _ _ (getMethod (Value.ref _) (Str.ofString "items") _) _ _ _)); (fail_if_success (with_reducible show wpAny _ _ (getMethod (Value.ref _) (Str.ofString "values") _) _ _ _)); (fail_if_success (with_reducible show wpAny _ _ (call (Value.builtin "dict.items") _) _ _ _)); (fail_if_success (with_reducible show wpAny _ _ (call (Value.builtin "dict.values") _) _ _ _)); (fail_if_success (with_reducible show wpAny _ _ (compareOp CmpOp.In (Value.ref _) (Value.ref _)) _ _ _)); (fail_if_success (with_reducible show wpAny _ _ (setItem (Value.ref _) (Value.ref _) _) _ _ _)); (fail_if_success (with_reducible show wpAny _ _ (subscriptTail _ _ (Value.ref _) (Value.ref _)) _ _ _)); (fail_if_success (with_reducible show wpAny _ _ (eval (Expr.Name (Str.ofString "k") _) (compEnvC _ _ _ _)) _ _ _)); (fail_if_success (with_reducible show wpAny _ _ (call (Value.builtin "list.append") _ _) _ _ _)); (fail_if_success (with_reducible show wpAny _ _ (subscriptTail _ (Expr.Slice _ _ _ _) (Value.ref _) (Value.ref _)) _ _ _)); (fail_if_success (with_reducible show wpAny _ _ (compareOp CmpOp.NotEq (Value.ref _) (Value.ref _)) _ _ _)); (fail_if_success (with_reducible show wpAny _ _ (compareOp CmpOp.Eq (Value.ref _) (Value.ref _)) _ _ _)); (fail_if_success (with_reducible show wpAny _ _ (compareOp CmpOp.Lt (Value.ref _) (Value.ref _)) _ _ _)); (fail_if_success (with_reducible show wpAny _ _ (call (Value.type "enumerate") _ _) _ _ _)); (fail_if_success (with_reducible show wpAny _ _ (exec (Stmt.While _ _ _ _) _) _ _ _)); (fail_if_success (with_reducible show wpAny _ _ (exec (Stmt.For _ _ _ _ _) _) _ _ _)); (fail_if_success (with_reducible show wpAny _ _ (call (Value.ref _) _ _) _ _ _)); (fail_if_success (with_reducible show wpAny _ _ (eval (Expr.ListComp _ _ _ _) _) _ _ _)); (fail_if_success (with_reducible show wpAny _ _ (subscriptTail _ _ (Value.ref _) (Value.int _ _)) _ _ _)); (fail_if_success (with_reducible show wpAny _ _ (setItem (Value.ref _) (Value.int _ _) _) _ _ _)); (fail_if_success (with_reducible show TupStores _ _ _ _ _ _ _ _)); (fail_if_success (with_reducible show wpAny _ _ (call (Value.builtin "len") _ _) _ _ _)); (fail_if_success (with_reducible show wpAny _ _ (call (Value.builtin "min") _ _) _ _ _)); (fail_if_success (with_reducible show wpAny _ _ (call (Value.builtin "max") _ _) _ _ _)); (fail_if_success (with_reducible show wpAny _ _ (call (Value.type "dict") _ _) _ _ _)); (fail_if_success (with_reducible show wpAny _ _ (eval (Expr.Dict _ _ _) _) _ _ _)); walk1; (try dsimp only)))
    rename News _ _ _ _ => N6
    refine len_list (news_lst N6 (.tail _ (.head _))) (by have := hi'.length; have := hds.1; simp only [List.size_toArray]; omega) ?_
    repeat' (first | (k_unfold; (try dsimp only)) | ((fail_if_success (with_reducible show wpAny _ _ (getMethod (Value.ref _) (Str.ofString "items") _) _ _ _)); (fail_if_success (with_reducible show wpAny _ _ (getMethod (Value.ref _) (Str.ofString "values") _) _ _ _)); (fail_if_success (with_reducible show wpAny _ _ (call (Value.builtin "dict.items") _) _ _ _)); (fail_if_success (with_reducible show wpAny _ _ (call (Value.builtin "dict.values") _) _ _ _)); (fail_if_success (with_reducible show wpAny _ _ (compareOp CmpOp.In (Value.ref _) (Value.ref _)) _ _ _)); (fail_if_success (with_reducible show wpAny _ _ (setItem (Value.ref _) (Value.ref _) _) _ _ _)); (fail_if_success (with_reducible show wpAny _ _ (subscriptTail _ _ (Value.ref _) (Value.ref _)) _ _ _)); (fail_if_success (with_reducible show wpAny _ _ (eval (Expr.Name (Str.ofString "k") _) (compEnvC _ _ _ _)) _ _ _)); (fail_if_success (with_reducible show wpAny _ _ (call (Value.builtin "list.append") _ _) _ _ _)); (fail_if_success (with_reducible show wpAny _ _ (subscriptTail _ (Expr.Slice _ _ _ _) (Value.ref _) (Value.ref _)) _ _ _)); (fail_if_success (with_reducible show wpAny _ _ (compareOp CmpOp.NotEq (Value.ref _) (Value.ref _)) _ _ _)); (fail_if_success (with_reducible show wpAny _ _ (compareOp CmpOp.Eq (Value.ref _) (Value.ref _)) _ _ _)); (fail_if_success (with_reducible show wpAny _ _ (compareOp CmpOp.Lt (Value.ref _) (Value.ref _)) _ _ _)); (fail_if_success (with_reducible show wpAny _ _ (call (Value.type "enumerate") _ _) _ _ _)); (fail_if_success (with_reducible show wpAny _ _ (exec (Stmt.While _ _ _ _) _) _ _ _)); (fail_if_success (with_reducible show wpAny _ _ (exec (Stmt.For _ _ _ _ _) _) _ _ _)); (fail_if_success (with_reducible show wpAny _ _ (call (Value.ref _) _ _) _ _ _)); (fail_if_success (with_reducible show wpAny _ _ (eval (Expr.ListComp _ _ _ _) _) _ _ _)); (fail_if_success (with_reducible show wpAny _ _ (subscriptTail _ _ (Value.ref _) (Value.int _ _)) _ _ _)); (fail_if_success (with_reducible show wpAny _ _ (setItem (Value.ref _) (Value.int _ _) _) _ _ _)); (fail_if_success (with_reducible show TupStores _ _ _ _ _ _ _ _)); (fail_if_success (with_reducible show wpAny _ _ (call (Value.builtin "len") _ _) _ _ _)); (fail_if_success (with_reducible show wpAny _ _ (call (Value.builtin "min") _ _) _ _ _)); (fail_if_success (with_reducible show wpAny _ _ (call (Value.builtin "max") _ _) _ _ _)); (fail_if_success (with_reducible show wpAny _ _ (call (Value.type "dict") _ _) _ _ _)); (fail_if_success (with_reducible show wpAny _ _ (eval (Expr.Dict _ _ _) _) _ _ _)); walk1; (try dsimp only)))
    rename Fr _ _ _ _ => F7
    rename News _ _ _ _ => N7
    have hif := full_ints hi' tk5
    have hlf := hif.length
    have hdf := full_degs hds
    dsimp only at F7 N7
    refine tied_spec (X0.keeps F7.keep) (T0.keeps F7.keep) ⟨_, (N7 _ (.head _)).1, rfl, _, rfl⟩ hif (fun d h => (hdf.2 d h).1) hdf.1 (by decide) (by decide) ?_
    intro v8 h8 tk8 up8 hres8
    have F8 := F7.keeps up8
    have N8 := N7.keeps up8
    clear F7 N7
    have hpf := p_full hds
    have hpg := p_full2 hds
    rw [htd] at hpg
    cases hf : tied (fullOf ds) with
    | some t8 => rw [hf] at hpg; cases hpg
    | none =>
      rw [hf] at hres8 hpf
      replace hres8 : v8 = .none := hres8
      subst hres8
      clear up8 hpg
      repeat' (first | (k_unfold; (try dsimp only)) | ((fail_if_success (with_reducible show wpAny _ _ (getMethod (Value.ref _) (Str.ofString "items") _) _ _ _)); (fail_if_success (with_reducible show wpAny _ _ (getMethod (Value.ref _) (Str.ofString "values") _) _ _ _)); (fail_if_success (with_reducible show wpAny _ _ (call (Value.builtin "dict.items") _) _ _ _)); (fail_if_success (with_reducible show wpAny _ _ (call (Value.builtin "dict.values") _) _ _ _)); (fail_if_success (with_reducible show wpAny _ _ (compareOp CmpOp.In (Value.ref _) (Value.ref _)) _ _ _)); (fail_if_success (with_reducible show wpAny _ _ (setItem (Value.ref _) (Value.ref _) _) _ _ _)); (fail_if_success (with_reducible show wpAny _ _ (subscriptTail _ _ (Value.ref _) (Value.ref _)) _ _ _)); (fail_if_success (with_reducible show wpAny _ _ (eval (Expr.Name (Str.ofString "k") _) (compEnvC _ _ _ _)) _ _ _)); (fail_if_success (with_reducible show wpAny _ _ (call (Value.builtin "list.append") _ _) _ _ _)); (fail_if_success (with_reducible show wpAny _ _ (subscriptTail _ (Expr.Slice _ _ _ _) (Value.ref _) (Value.ref _)) _ _ _)); (fail_if_success (with_reducible show wpAny _ _ (compareOp CmpOp.NotEq (Value.ref _) (Value.ref _)) _ _ _)); (fail_if_success (with_reducible show wpAny _ _ (compareOp CmpOp.Eq (Value.ref _) (Value.ref _)) _ _ _)); (fail_if_success (with_reducible show wpAny _ _ (compareOp CmpOp.Lt (Value.ref _) (Value.ref _)) _ _ _)); (fail_if_success (with_reducible show wpAny _ _ (call (Value.type "enumerate") _ _) _ _ _)); (fail_if_success (with_reducible show wpAny _ _ (exec (Stmt.While _ _ _ _) _) _ _ _)); (fail_if_success (with_reducible show wpAny _ _ (exec (Stmt.For _ _ _ _ _) _) _ _ _)); (fail_if_success (with_reducible show wpAny _ _ (call (Value.ref _) _ _) _ _ _)); (fail_if_success (with_reducible show wpAny _ _ (eval (Expr.ListComp _ _ _ _) _) _ _ _)); (fail_if_success (with_reducible show wpAny _ _ (subscriptTail _ _ (Value.ref _) (Value.int _ _)) _ _ _)); (fail_if_success (with_reducible show wpAny _ _ (setItem (Value.ref _) (Value.int _ _) _) _ _ _)); (fail_if_success (with_reducible show TupStores _ _ _ _ _ _ _ _)); (fail_if_success (with_reducible show wpAny _ _ (call (Value.builtin "len") _ _) _ _ _)); (fail_if_success (with_reducible show wpAny _ _ (call (Value.builtin "min") _ _) _ _ _)); (fail_if_success (with_reducible show wpAny _ _ (call (Value.builtin "max") _ _) _ _ _)); (fail_if_success (with_reducible show wpAny _ _ (call (Value.type "dict") _ _) _ _ _)); (fail_if_success (with_reducible show wpAny _ _ (eval (Expr.Dict _ _ _) _) _ _ _)); walk1; (try dsimp only)))
      rename Fr _ _ _ _ => F20
      rename News _ _ _ _ => N20
      refine my_comp (cl := []) (by with_unfolding_all rfl) (by rfl) (by decide) ?_
      repeat' (first | (k_unfold; (try dsimp only)) | ((fail_if_success (with_reducible show wpAny _ _ (getMethod (Value.ref _) (Str.ofString "items") _) _ _ _)); (fail_if_success (with_reducible show wpAny _ _ (getMethod (Value.ref _) (Str.ofString "values") _) _ _ _)); (fail_if_success (with_reducible show wpAny _ _ (call (Value.builtin "dict.items") _) _ _ _)); (fail_if_success (with_reducible show wpAny _ _ (call (Value.builtin "dict.values") _) _ _ _)); (fail_if_success (with_reducible show wpAny _ _ (compareOp CmpOp.In (Value.ref _) (Value.ref _)) _ _ _)); (fail_if_success (with_reducible show wpAny _ _ (setItem (Value.ref _) (Value.ref _) _) _ _ _)); (fail_if_success (with_reducible show wpAny _ _ (subscriptTail _ _ (Value.ref _) (Value.ref _)) _ _ _)); (fail_if_success (with_reducible show wpAny _ _ (eval (Expr.Name (Str.ofString "k") _) (compEnvC _ _ _ _)) _ _ _)); (fail_if_success (with_reducible show wpAny _ _ (call (Value.builtin "list.append") _ _) _ _ _)); (fail_if_success (with_reducible show wpAny _ _ (subscriptTail _ (Expr.Slice _ _ _ _) (Value.ref _) (Value.ref _)) _ _ _)); (fail_if_success (with_reducible show wpAny _ _ (compareOp CmpOp.NotEq (Value.ref _) (Value.ref _)) _ _ _)); (fail_if_success (with_reducible show wpAny _ _ (compareOp CmpOp.Eq (Value.ref _) (Value.ref _)) _ _ _)); (fail_if_success (with_reducible show wpAny _ _ (compareOp CmpOp.Lt (Value.ref _) (Value.ref _)) _ _ _)); (fail_if_success (with_reducible show wpAny _ _ (call (Value.type "enumerate") _ _) _ _ _)); (fail_if_success (with_reducible show wpAny _ _ (exec (Stmt.While _ _ _ _) _) _ _ _)); (fail_if_success (with_reducible show wpAny _ _ (exec (Stmt.For _ _ _ _ _) _) _ _ _)); (fail_if_success (with_reducible show wpAny _ _ (call (Value.ref _) _ _) _ _ _)); (fail_if_success (with_reducible show wpAny _ _ (eval (Expr.ListComp _ _ _ _) _) _ _ _)); (fail_if_success (with_reducible show wpAny _ _ (subscriptTail _ _ (Value.ref _) (Value.int _ _)) _ _ _)); (fail_if_success (with_reducible show wpAny _ _ (setItem (Value.ref _) (Value.int _ _) _) _ _ _)); (fail_if_success (with_reducible show TupStores _ _ _ _ _ _ _ _)); (fail_if_success (with_reducible show wpAny _ _ (call (Value.builtin "len") _ _) _ _ _)); (fail_if_success (with_reducible show wpAny _ _ (call (Value.builtin "min") _ _) _ _ _)); (fail_if_success (with_reducible show wpAny _ _ (call (Value.builtin "max") _ _) _ _ _)); (fail_if_success (with_reducible show wpAny _ _ (call (Value.type "dict") _ _) _ _ _)); (fail_if_success (with_reducible show wpAny _ _ (eval (Expr.Dict _ _ _) _) _ _ _)); walk1; (try dsimp only)))
      obtain ⟨NN, hNN, N20⟩ : ∃ NN, NN = _ ∧ News _ _ _ NN := ⟨_, rfl, N20⟩
      have hfm := N20 _ (by rw [hNN]; exact .head _)
      refine comp_list (fun _ => true) rfl (by decide) (by rfl) (by rfl) (vs := vds ++ (List.replicate (7 - (vds.toArray.size : Int)).toNat [Value.int 0 tk5]).flatten) ⟨_, hfm.1, rfl, _, rfl⟩ hfm.2.1 (by have := hdf.1; rw [hlf]; simp only [sizeLine_eq]; omega) F20 N20
        (fun j ys nx => nx = NN ∧ IntsAre ys (((fullOf ds).take j).map fun d => 6 - d)) ⟨rfl, .nil⟩ ?_ ?_
      · rintro j v mC ys nx h11 tk11 own C oC D wr E' hv hmv hoC ⟨rfl, hys⟩ hoff hown F11 N11
        obtain ⟨dd, td, rfl, hdd⟩ := hif.at j v hv
        refine ⟨wpAny_tests_nil (CompT.intro F11 N11), (fun q => by cases q), ?_⟩
        intro h12 tk12 _ F12 N12
        clear F11 N11
        k_fold
        repeat' (first | (k_unfold; (try dsimp only)) | ((fail_if_success (with_reducible show wpAny _ _ (getMethod (Value.ref _) (Str.ofString "items") _) _ _ _)); (fail_if_success (with_reducible show wpAny _ _ (getMethod (Value.ref _) (Str.ofString "values") _) _ _ _)); (fail_if_success (with_reducible show wpAny _ _ (call (Value.builtin "dict.items") _) _ _ _)); (fail_if_success (with_reducible show wpAny _ _ (call (Value.builtin "dict.values") _) _ _ _)); (fail_if_success (with_reducible show wpAny _ _ (compareOp CmpOp.In (Value.ref _) (Value.ref _)) _ _ _)); (fail_if_success (with_reducible show wpAny _ _ (setItem (Value.ref _) (Value.ref _) _) _ _ _)); (fail_if_success (with_reducible show wpAny _ _ (subscriptTail _ _ (Value.ref _) (Value.ref _)) _ _ _)); (fail_if_success (with_reducible show wpAny _ _ (eval (Expr.Name (Str.ofString "k") _) (compEnvC _ _ _ _)) _ _ _)); (fail_if_success (with_reducible show wpAny _ _ (call (Value.builtin "list.append") _ _) _ _ _)); (fail_if_success (with_reducible show wpAny _ _ (subscriptTail _ (Expr.Slice _ _ _ _) (Value.ref _) (Value.ref _)) _ _ _)); (fail_if_success (with_reducible show wpAny _ _ (compareOp CmpOp.NotEq (Value.ref _) (Value.ref _)) _ _ _)); (fail_if_success (with_reducible show wpAny _ _ (compareOp CmpOp.Eq (Value.ref _) (Value.ref _)) _ _ _)); (fail_if_success (with_reducible show wpAny _ _ (compareOp CmpOp.Lt (Value.ref _) (Value.ref _)) _ _ _)); (fail_if_success (with_reducible show wpAny _ _ (call (Value.type "enumerate") _ _) _ _ _)); (fail_if_success (with_reducible show wpAny _ _ (exec (Stmt.While _ _ _ _) _) _ _ _)); (fail_if_success (with_reducible show wpAny _ _ (exec (Stmt.For _ _ _ _ _) _) _ _ _)); (fail_if_success (with_reducible show wpAny _ _ (call (Value.ref _) _ _) _ _ _)); (fail_if_success (with_reducible show wpAny _ _ (eval (Expr.ListComp _ _ _ _) _) _ _ _)); (fail_if_success (with_reducible show wpAny _ _ (subscriptTail _ _ (Value.ref _) (Value.int _ _)) _ _ _)); (fail_if_success (with_reducible show wpAny _ _ (setItem (Value.ref _) (Value.int _ _) _) _ _ _)); (fail_if_success (with_reducible show TupStores _ _ _ _ _ _ _ _)); (fail_if_success (with_reducible show wpAny _ _ (call (Value.builtin "len") _ _) _ _ _)); (fail_if_success (with_reducible show wpAny _ _ (call (Value.builtin "min") _ _) _ _ _)); (fail_if_success (with_reducible show wpAny _ _ (call (Value.builtin "max") _ _) _ _ _)); (fail_if_success (with_reducible show wpAny _ _ (call (Value.type "dict") _ _) _ _ _)); (fail_if_success (with_reducible show wpAny _ _ (eval (Expr.Dict _ _ _) _) _ _ _)); walk1; (try dsimp only)))
        rename Fr _ _ _ _ => F13
        rename News _ _ _ _ => N13
        refine CompQ.intro F13 N13 hoff ⟨rfl, ?_⟩
        have e1 : (fullOf ds).take (j + 1) = (fullOf ds).take j ++ [dd] := by simp [List.take_add_one, hdd]
        rw [e1, List.map_append]
        exact hys.append (.cons _ _ .nil)
      rintro D14 h14 tk14 ys nx F9 N9 hq14 ⟨rfl, hi9⟩
      rw [hlf, List.take_length] at hi9
      repeat' (first | (k_unfold; (try dsimp only)) | ((fail_if_success (with_reducible show wpAny _ _ (getMethod (Value.ref _) (Str.ofString "items") _) _ _ _)); (fail_if_success (with_reducible show wpAny _ _ (getMethod (Value.ref _) (Str.ofString "values") _) _ _ _)); (fail_if_success (with_reducible show wpAny _ _ (call (Value.builtin "dict.items") _) _ _ _)); (fail_if_success (with_reducible show wpAny _ _ (call (Value.builtin "dict.values") _) _ _ _)); (fail_if_success (with_reducible show wpAny _ _ (compareOp CmpOp.In (Value.ref _) (Value.ref _)) _ _ _)); (fail_if_success (with_reducible show wpAny _ _ (setItem (Value.ref _) (Value.ref _) _) _ _ _)); (fail_if_success (with_reducible show wpAny _ _ (subscriptTail _ _ (Value.ref _) (Value.ref _)) _ _ _)); (fail_if_success (with_reducible show wpAny _ _ (eval (Expr.Name (Str.ofString "k") _) (compEnvC _ _ _ _)) _ _ _)); (fail_if_success (with_reducible show wpAny _ _ (call (Value.builtin "list.append") _ _) _ _ _)); (fail_if_success (with_reducible show wpAny _ _ (subscriptTail _ (Expr.Slice _ _ _ _) (Value.ref _) (Value.ref _)) _ _ _)); (fail_if_success (with_reducible show wpAny _ _ (compareOp CmpOp.NotEq (Value.ref _) (Value.ref _)) _ _ _)); (fail_if_success (with_reducible show wpAny _ _ (compareOp CmpOp.Eq (Value.ref _) (Value.ref _)) _ _ _)); (fail_if_success (with_reducible show wpAny _ _ (compareOp CmpOp.Lt (Value.ref _) (Value.ref _)) _ _ _)); (fail_if_success (with_reducible show wpAny _ _ (call (Value.type "enumerate") _ _) _ _ _)); (fail_if_success (with_reducible show wpAny _ _ (exec (Stmt.While _ _ _ _) _) _ _ _)); (fail_if_success (with_reducible show wpAny _ _ (exec (Stmt.For _ _ _ _ _) _) _ _ _)); (fail_if_success (with_reducible show wpAny _ _ (call (Value.ref _) _ _) _ _ _)); (fail_if_success (with_reducible show wpAny _ _ (eval (Expr.ListComp _ _ _ _) _) _ _ _)); (fail_if_success (with_reducible show wpAny _ _ (subscriptTail _ _ (Value.ref _) (Value.int _ _)) _ _ _)); (fail_if_success (with_reducible show wpAny _ _ (setItem (Value.ref _) (Value.int _ _) _) _ _ _)); (fail_if_success (with_reducible show TupStores _ _ _ _ _ _ _ _)); (fail_if_success (with_reducible show wpAny _ _ (call (Value.builtin "len") _ _) _ _ _)); (fail_if_success (with_reducible show wpAny _ _ (call (Value.builtin "min") _ _) _ _ _)); (fail_if_success (with_reducible show wpAny _ _ (call (Value.builtin "max") _ _) _ _ _)); (fail_if_success (with_reducible show wpAny _ _ (call (Value.type "dict") _ _) _ _ _)); (fail_if_success (with_reducible show wpAny _ _ (eval (Expr.Dict _ _ _) _) _ _ _)); walk1; (try dsimp only)))
      have hdc := sub_degs hdf
      refine tied_spec (X0.keeps F9.keep) (T0.keeps F9.keep) (news_lst N9 (.head _)) hi9 (fun d h => (hdc.2 d h).1) hdc.1 (by decide) (by decide) ?_
      intro v10 h10 tk10 up10 hres10
      have F10 := F9.keeps up10
      have N10 := N9.keeps up10
      clear F9 N9
      cases htc : tied ((fullOf ds).map fun d => 6 - d) with
      | some t10 => rw [htc] at hpf; cases hpf
      | none =>
        rw [htc] at hres10
        replace hres10 : v10 = .none := hres10
        subst hres10
        clear up10 hpf
        repeat' (first | (k_unfold; (try dsimp only)) | ((fail_if_success (with_reducible show wpAny _ _ (getMethod (Value.ref _) (Str.ofString "items") _) _ _ _)); (fail_if_success (with_reducible show wpAny _ _ (getMethod (Value.ref _) (Str.ofString "values") _) _ _ _)); (fail_if_success (with_reducible show wpAny _ _ (call (Value.builtin "dict.items") _) _ _ _)); (fail_if_success (with_reducible show wpAny _ _ (call (Value.builtin "dict.values") _) _ _ _)); (fail_if_success (with_reducible show wpAny _ _ (compareOp CmpOp.In (Value.ref _) (Value.ref _)) _ _ _)); (fail_if_success (with_reducible show wpAny _ _ (setItem (Value.ref _) (Value.ref _) _) _ _ _)); (fail_if_success (with_reducible show wpAny _ _ (subscriptTail _ _ (Value.ref _) (Value.ref _)) _ _ _)); (fail_if_success (with_reducible show wpAny _ _ (eval (Expr.Name (Str.ofString "k") _) (compEnvC _ _ _ _)) _ _ _)); (fail_if_success (with_reducible show wpAny _ _ (call (Value.builtin "list.append") _ _) _ _ _)); (fail_if_success (with_reducible show wpAny _ _ (subscriptTail _ (Expr.Slice _ _ _ _) (Value.ref _) (Value.ref _)) _ _ _)); (fail_if_success (with_reducible show wpAny _ _ (compareOp CmpOp.NotEq (Value.ref _) (Value.ref _)) _ _ _)); (fail_if_success (with_reducible show wpAny _ _ (compareOp CmpOp.Eq (Value.ref _) (Value.ref _)) _ _ _)); (fail_if_success (with_reducible show wpAny _ _ (compareOp CmpOp.Lt (Value.ref _) (Value.ref _)) _ _ _)); (fail_if_success (with_reducible show wpAny _ _ (call (Value.type "enumerate") _ _) _ _ _)); (fail_if_success (with_reducible show wpAny _ _ (exec (Stmt.While _ _ _ _) _) _ _ _)); (fail_if_success (with_reducible show wpAny _ _ (exec (Stmt.For _ _ _ _ _) _) _ _ _)); (fail_if_success (with_reducible show wpAny _ _ (call (Value.ref _) _ _) _ _ _)); (fail_if_success (with_reducible show wpAny _ _ (eval (Expr.ListComp _ _ _ _) _) _ _ _)); (fail_if_success (with_reducible show wpAny _ _ (subscriptTail _ _ (Value.ref _) (Value.int _ _)) _ _ _)); (fail_if_success (with_reducible show wpAny _ _ (setItem (Value.ref _) (Value.int _ _) _) _ _ _)); (fail_if_success (with_reducible show TupStores _ _ _ _ _ _ _ _)); (fail_if_success (with_reducible show wpAny _ _ (call (Value.builtin "len") _ _) _ _ _)); (fail_if_success (with_reducible show wpAny _ _ (call (Value.builtin "min") _ _) _ _ _)); (fail_if_success (with_reducible show wpAny _ _ (call (Value.builtin "max") _ _) _ _ _)); (fail_if_success (with_reducible show wpAny _ _ (call (Value.type "dict") _ _) _ _ _)); (fail_if_success (with_reducible show wpAny _ _ (eval (Expr.Dict _ _ _) _) _ _ _)); walk1; (try dsimp only)))
        rename Fr _ _ _ _ => Fz
        exact fin_true Fz (by assumption)

  | some ties =>
    rw [htd] at hres
    obtain ⟨al, items, na, tups, rfl, hal, hal0, htu, hTu, hall⟩ := hres
    have F3 := F2.keeps up3
    have N3 := news_tied F2 N2 up3 hal hal0 htu (.head _)
    have hdal : dl ≠ al := by
      rintro rfl
      rw [(N2 _ (.head _)).1] at hal0; cases hal0
    clear F2 N2 up3 hal hal0 htu
    repeat' (first | (k_unfold; (try dsimp only)) | ((fail_if_success (with_reducible show wpAny _ _ (getMethod (Value.ref _) (Str.ofString "items") _) _ _ _)); (fail_if_success (with_reducible show wpAny _ _ (getMethod (Value.ref _) (Str.ofString "values") _) _ _ _)); (fail_if_success (with_reducible show wpAny _ _ (call (Value.builtin "dict.items") _) _ _ _)); (fail_if_success (with_reducible show wpAny _ _ (call (Value.builtin "dict.values") _) _ _ _)); (fail_if_success (with_reducible show wpAny _ _ (compareOp CmpOp.In (Value.ref _) (Value.ref _)) _ _ _)); (fail_if_success (with_reducible show wpAny _ _ (setItem (Value.ref _) (Value.ref _) _) _ _ _)); (fail_if_success (with_reducible show wpAny _ _ (subscriptTail _ _ (Value.ref _) (Value.ref _)) _ _ _)); (fail_if_success (with_reducible show wpAny _ _ (eval (Expr.Name (Str.ofString "k") _) (compEnvC _ _ _ _)) _ _ _)); (fail_if_success (with_reducible show wpAny _ _ (call (Value.builtin "list.append") _ _) _ _ _)); (fail_if_success (with_reducible show wpAny _ _ (subscriptTail _ (Expr.Slice _ _ _ _) (Value.ref _) (Value.ref _)) _ _ _)); (fail_if_success (with_reducible show wpAny _ _ (compareOp CmpOp.NotEq (Value.ref _) (Value.ref _)) _ _ _)); (fail_if_success (with_reducible show wpAny _ _ (compareOp CmpOp.Eq (Value.ref _) (Value.ref _)) _ _ _)); (fail_if_success (with_reducible show wpAny _ _ (compareOp CmpOp.Lt (Value.ref _) (Value.ref _)) _ _ _)); (fail_if_success (with_reducible show wpAny _ _ (call (Value.type "enumerate") _ _) _ _ _)); (fail_if_success (with_reducible show wpAny _ _ (exec (Stmt.While _ _ _ _) _) _ _ _)); (fail_if_success (with_reducible show wpAny _ _ (exec (Stmt.For _ _ _ _ _) _) _ _ _)); (fail_if_success (with_reducible show wpAny _ _ (call (Value.ref _) _ _) _ _ _)); (fail_if_success (with_reducible show wpAny _ _ (eval (Expr.ListComp _ _ _ _) _) _ _ _)); (fail_if_success (with_reducible show wpAny _ _ (subscriptTail _ _ (Value.ref _) (Value.int _ _)) _ _ _)); (fail_if_success (with_reducible show wpAny _ _ (setItem (Value.ref _) (Value.int _ _) _) _ _ _)); (fail_if_success (with_reducible show TupStores _ _ _ _ _ _ _ _)); (fail_if_success (with_reducible show wpAny _ _ (call (Value.builtin "len") _ _) _ _ _)); (fail_if_success (with_reducible show wpAny _ _ (call (Value.builtin "min") _ _) _ _ _)); (fail_if_success (with_reducible show wpAny _ _ (call (Value.builtin "max") _ _) _ _ _)); (fail_if_success (with_reducible show wpAny _ _ (call (Value.type "dict") _ _) _ _ _)); (fail_if_success (with_reducible show wpAny _ _ (eval (Expr.Dict _ _ _) _) _ _ _)); walk1; (try dsimp only)))
    rename Fr _ _ _ _ => F4
    rename News _ _ _ _ => N4
    refine can_spec (X0.keeps F4.keep) (T0.keeps F4.keep) (vs := vds) (news_lst N4 (.tail _ (.head _))) hi' (fun d h => (hds.2 d h).1) hds.1 (by decide) (by decide) ?_
    intro b h5 tk5 up5 hb
    have F5 := F4.keeps up5
    have N5 := N4.keeps up5
    have hbb := p_can hds hb
    rw [htd] at hbb
    subst hbb
    clear up5 hb F4 N4
    dsimp only [Option.isSome]
    repeat' (first | (k_unfold; (try dsimp only)) | ((fail_if_success (with_reducible show wpAny _ _ (getMethod (Value.ref _) (Str.ofString "items") _) _ _ _)); (fail_if_success (with_reducible show wpAny _ _ (getMethod (Value.ref _) (Str.ofString "values") _) _ _ _)); (fail_if_success (with_reducible show wpAny _ _ (call (Value.builtin "dict.items") _) _ _ _)); (fail_if_success (with_reducible show wpAny _ _ (call (Value.builtin "dict.values") _) _ _ _)); (fail_if_success (with_reducible show wpAny _ _ (compareOp CmpOp.In (Value.ref _) (Value.ref _)) _ _ _)); (fail_if_success (with_reducible show wpAny _ _ (setItem (Value.ref _) (Value.ref _) _) _ _ _)); (fail_if_success (with_reducible show wpAny _ _ (subscriptTail _ _ (Value.ref _) (Value.ref _)) _ _ _)); (fail_if_success (with_reducible show wpAny _ _ (eval (Expr.Name (Str.ofString "k") _) (compEnvC _ _ _ _)) _ _ _)); (fail_if_success (with_reducible show wpAny _ _ (call (Value.builtin "list.append") _ _) _ _ _)); (fail_if_success (with_reducible show wpAny _ _ (subscriptTail _ (Expr.Slice _ _ _ _) (Value.ref _) (Value.ref _)) _ _ _)); (fail_if_success (with_reducible show wpAny _ _ (compareOp CmpOp.NotEq (Value.ref _) (Value.ref _)) _ _ _)); (fail_if_success (with_reducible show wpAny _ _ (compareOp CmpOp.Eq (Value.ref _) (Value.ref _)) _ _ _)); (fail_if_success (with_reducible show wpAny _ _ (compareOp CmpOp.Lt (Value.ref _) (Value.ref _)) _ _ _)); (fail_if_success (with_reducible show wpAny _ _ (call (Value.type "enumerate") _ _) _ _ _)); (fail_if_success (with_reducible show wpAny _ _ (exec (Stmt.While _ _ _ _) _) _ _ _)); (fail_if_success (with_reducible show wpAny _ _ (exec (Stmt.For _ _ _ _ _) _) _ _ _)); (fail_if_success (with_reducible show wpAny _ _ (call (Value.ref _) _ _) _ _ _)); (fail_if_success (with_reducible show wpAny _ _ (eval (Expr.ListComp _ _ _ _) _) _ _ _)); (fail_if_success (with_reducible show wpAny _ _ (subscriptTail _ _ (Value.ref _) (Value.int _ _)) _ _ _)); (fail_if_success (with_reducible show wpAny _ _ (setItem (Value.ref _) (Value.int _ _) _) _ _ _)); (fail_if_success (with_reducible show TupStores _ _ _ _ _ _ _ _)); (fail_if_success (with_reducible show wpAny _ _ (call (Value.builtin "len") _ _) _ _ _)); (fail_if_success (with_reducible show wpAny _ _ (call (Value.builtin "min") _ _) _ _ _)); (fail_if_success (with_reducible show wpAny _ _ (call (Value.builtin "max") _ _) _ _ _)); (fail_if_success (with_reducible show wpAny _ _ (call (Value.type "dict") _ _) _ _ _)); (fail_if_success (with_reducible show wpAny _ _ (eval (Expr.Dict _ _ _) _) _ _ _)); walk1; (try dsimp only)))
    rename News _ _ _ _ => N6
    refine len_list (news_lst N6 (.tail _ (.tail _ (.head _)))) (by have := hi'.length; have := hds.1; simp only [List.size_toArray]; omega) ?_
    repeat' (first | (k_unfold; (try dsimp only)) | ((fail_if_success (with_reducible show wpAny _ _ (getMethod (Value.ref _) (Str.ofString "items") _) _ _ _)); (fail_if_success (with_reducible show wpAny _ _ (getMethod (Value.ref _) (Str.ofString "values") _) _ _ _)); (fail_if_success (with_reducible show wpAny _ _ (call (Value.builtin "dict.items") _) _ _ _)); (fail_if_success (with_reducible show wpAny _ _ (call (Value.builtin "dict.values") _) _ _ _)); (fail_if_success (with_reducible show wpAny _ _ (compareOp CmpOp.In (Value.ref _) (Value.ref _)) _ _ _)); (fail_if_success (with_reducible show wpAny _ _ (setItem (Value.ref _) (Value.ref _) _) _ _ _)); (fail_if_success (with_reducible show wpAny _ _ (subscriptTail _ _ (Value.ref _) (Value.ref _)) _ _ _)); (fail_if_success (with_reducible show wpAny _ _ (eval (Expr.Name (Str.ofString "k") _) (compEnvC _ _ _ _)) _ _ _)); (fail_if_success (with_reducible show wpAny _ _ (call (Value.builtin "list.append") _ _) _ _ _)); (fail_if_success (with_reducible show wpAny _ _ (subscriptTail _ (Expr.Slice _ _ _ _) (Value.ref _) (Value.ref _)) _ _ _)); (fail_if_success (with_reducible show wpAny _ _ (compareOp CmpOp.NotEq (Value.ref _) (Value.ref _)) _ _ _)); (fail_if_success (with_reducible show wpAny _ _ (compareOp CmpOp.Eq (Value.ref _) (Value.ref _)) _ _ _)); (fail_if_success (with_reducible show wpAny _ _ (compareOp CmpOp.Lt (Value.ref _) (Value.ref _)) _ _ _)); (fail_if_success (with_reducible show wpAny _ _ (call (Value.type "enumerate") _ _) _ _ _)); (fail_if_success (with_reducible show wpAny _ _ (exec (Stmt.While _ _ _ _) _) _ _ _)); (fail_if_success (with_reducible show wpAny _ _ (exec (Stmt.For _ _ _ _ _) _) _ _ _)); (fail_if_success (with_reducible show wpAny _ _ (call (Value.ref _) _ _) _ _ _)); (fail_if_success (with_reducible show wpAny _ _ (eval (Expr.ListComp _ _ _ _) _) _ _ _)); (fail_if_success (with_reducible show wpAny _ _ (subscriptTail _ _ (Value.ref _) (Value.int _ _)) _ _ _)); (fail_if_success (with_reducible show wpAny _ _ (setItem (Value.ref _) (Value.int _ _) _) _ _ _)); (fail_if_success (with_reducible show TupStores _ _ _ _ _ _ _ _)); (fail_if_success (with_reducible show wpAny _ _ (call (Value.builtin "len") _ _) _ _ _)); (fail_if_success (with_reducible show wpAny _ _ (call (Value.builtin "min") _ _) _ _ _)); (fail_if_success (with_reducible show wpAny _ _ (call (Value.builtin "max") _ _) _ _ _)); (fail_if_success (with_reducible show wpAny _ _ (call (Value.type "dict") _ _) _ _ _)); (fail_if_success (with_reducible show wpAny _ _ (eval (Expr.Dict _ _ _) _) _ _ _)); walk1; (try dsimp only)))
    rename Fr _ _ _ _ => F7
    rename News _ _ _ _ => N7
    have hif := full_ints hi' tk5
    have hlf := hif.length
    have hdf := full_degs hds
    dsimp only at F7 N7
    refine tied_spec (X0.keeps F7.keep) (T0.keeps F7.keep) ⟨_, (N7 _ (.head _)).1, rfl, _, rfl⟩ hif (fun d h => (hdf.2 d h).1) hdf.1 (by decide) (by decide) ?_
    intro v8 h8 tk8 up8 hres8
    have F8 := F7.keeps up8
    have N8 := N7.keeps up8
    clear F7 N7
    have hpf := p_full hds
    have hpg := p_full2 hds
    rw [htd] at hpg
    cases hf : tied (fullOf ds) with
    | none => rw [hf] at hpg; cases hpg
    | some t8 =>
      rw [hf] at hres8 hpf
      obtain ⟨a8, _, _, _, rfl, _⟩ := hres8
      clear up8 hpg
      repeat' (first | (k_unfold; (try dsimp only)) | ((fail_if_success (with_reducible show wpAny _ _ (getMethod (Value.ref _) (Str.ofString "items") _) _ _ _)); (fail_if_success (with_reducible show wpAny _ _ (getMethod (Value.ref _) (Str.ofString "values") _) _ _ _)); (fail_if_success (with_reducible show wpAny _ _ (call (Value.builtin "dict.items") _) _ _ _)); (fail_if_success (with_reducible show wpAny _ _ (call (Value.builtin "dict.values") _) _ _ _)); (fail_if_success (with_reducible show wpAny _ _ (compareOp CmpOp.In (Value.ref _) (Value.ref _)) _ _ _)); (fail_if_success (with_reducible show wpAny _ _ (setItem (Value.ref _) (Value.ref _) _) _ _ _)); (fail_if_success (with_reducible show wpAny _ _ (subscriptTail _ _ (Value.ref _) (Value.ref _)) _ _ _)); (fail_if_success (with_reducible show wpAny _ _ (eval (Expr.Name (Str.ofString "k") _) (compEnvC _ _ _ _)) _ _ _)); (fail_if_success (with_reducible show wpAny _ _ (call (Value.builtin "list.append") _ _) _ _ _)); (fail_if_success (with_reducible show wpAny _ _ (subscriptTail _ (Expr.Slice _ _ _ _) (Value.ref _) (Value.ref _)) _ _ _)); (fail_if_success (with_reducible show wpAny _ _ (compareOp CmpOp.NotEq (Value.ref _) (Value.ref _)) _ _ _)); (fail_if_success (with_reducible show wpAny _ _ (compareOp CmpOp.Eq (Value.ref _) (Value.ref _)) _ _ _)); (fail_if_success (with_reducible show wpAny _ _ (compareOp CmpOp.Lt (Value.ref _) (Value.ref _)) _ _ _)); (fail_if_success (with_reducible show wpAny _ _ (call (Value.type "enumerate") _ _) _ _ _)); (fail_if_success (with_reducible show wpAny _ _ (exec (Stmt.While _ _ _ _) _) _ _ _)); (fail_if_success (with_reducible show wpAny _ _ (exec (Stmt.For _ _ _ _ _) _) _ _ _)); (fail_if_success (with_reducible show wpAny _ _ (call (Value.ref _) _ _) _ _ _)); (fail_if_success (with_reducible show wpAny _ _ (eval (Expr.ListComp _ _ _ _) _) _ _ _)); (fail_if_success (with_reducible show wpAny _ _ (subscriptTail _ _ (Value.ref _) (Value.int _ _)) _ _ _)); (fail_if_success (with_reducible show wpAny _ _ (setItem (Value.ref _) (Value.int _ _) _) _ _ _)); (fail_if_success (with_reducible show TupStores _ _ _ _ _ _ _ _)); (fail_if_success (with_reducible show wpAny _ _ (call (Value.builtin "len") _ _) _ _ _)); (fail_if_success (with_reducible show wpAny _ _ (call (Value.builtin "min") _ _) _ _ _)); (fail_if_success (with_reducible show wpAny _ _ (call (Value.builtin "max") _ _) _ _ _)); (fail_if_success (with_reducible show wpAny _ _ (call (Value.type "dict") _ _) _ _ _)); (fail_if_success (with_reducible show wpAny _ _ (eval (Expr.Dict _ _ _) _) _ _ _)); walk1; (try dsimp only)))
      rename Fr _ _ _ _ => F20
      rename News _ _ _ _ => N20
      refine my_comp (cl := []) (by with_unfolding_all rfl) (by rfl) (by decide) ?_
      repeat' (first | (k_unfold; (try dsimp only)) | ((fail_if_success (with_reducible show wpAny _ _ (getMethod (Value.ref _) (Str.ofString "items") _) _ _ _)); (fail_if_success (with_reducible show wpAny _ _ (getMethod (Value.ref _) (Str.ofString "values") _) _ _ _)); (fail_if_success (with_reducible show wpAny _ _ (call (Value.builtin "dict.items") _) _ _ _)); (fail_if_success (with_reducible show wpAny _ _ (call (Value.builtin "dict.values") _) _ _ _)); (fail_if_success (with_reducible show wpAny _ _ (compareOp CmpOp.In (Value.ref _) (Value.ref _)) _ _ _)); (fail_if_success (with_reducible show wpAny _ _ (setItem (Value.ref _) (Value.ref _) _) _ _ _)); (fail_if_success (with_reducible show wpAny _ _ (subscriptTail _ _ (Value.ref _) (Value.ref _)) _ _ _)); (fail_if_success (with_reducible show wpAny _ _ (eval (Expr.Name (Str.ofString "k") _) (compEnvC _ _ _ _)) _ _ _)); (fail_if_success (with_reducible show wpAny _ _ (call (Value.builtin "list.append") _ _) _ _ _)); (fail_if_success (with_reducible show wpAny _ _ (subscriptTail _ (Expr.Slice _ _ _ _) (Value.ref _) (Value.ref _)) _ _ _)); (fail_if_success (with_reducible show wpAny _ _ (compareOp CmpOp.NotEq (Value.ref _) (Value.ref _)) _ _ _)); (fail_if_success (with_reducible show wpAny _ _ (compareOp CmpOp.Eq (Value.ref _) (Value.ref _)) _ _ _)); (fail_if_success (with_reducible show wpAny _ _ (compareOp CmpOp.Lt (Value.ref _) (Value.ref _)) _ _ _)); (fail_if_success (with_reducible show wpAny _ _ (call (Value.type "enumerate") _ _) _ _ _)); (fail_if_success (with_reducible show wpAny _ _ (exec (Stmt.While _ _ _ _) _) _ _ _)); (fail_if_success (with_reducible show wpAny _ _ (exec (Stmt.For _ _ _ _ _) _) _ _ _)); (fail_if_success (with_reducible show wpAny _ _ (call (Value.ref _) _ _) _ _ _)); (fail_if_success (with_reducible show wpAny _ _ (eval (Expr.ListComp _ _ _ _) _) _ _ _)); (fail_if_success (with_reducible show wpAny _ _ (subscriptTail _ _ (Value.ref _) (Value.int _ _)) _ _ _)); (fail_if_success (with_reducible show wpAny _ _ (setItem (Value.ref _) (Value.int _ _) _) _ _ _)); (fail_if_success (with_reducible show TupStores _ _ _ _ _ _ _ _)); (fail_if_success (with_reducible show wpAny _ _ (call (Value.builtin "len") _ _) _ _ _)); (fail_if_success (with_reducible show wpAny _ _ (call (Value.builtin "min") _ _) _ _ _)); (fail_if_success (with_reducible show wpAny _ _ (call (Value.builtin "max") _ _) _ _ _)); (fail_if_success (with_reducible show wpAny _ _ (call (Value.type "dict") _ _) _ _ _)); (fail_if_success (with_reducible show wpAny _ _ (eval (Expr.Dict _ _ _) _) _ _ _)); walk1; (try dsimp only)))
      obtain ⟨NN, hNN, N20⟩ : ∃ NN, NN = _ ∧ News _ _ _ NN := ⟨_, rfl, N20⟩
      have hfm := N20 _ (by rw [hNN]; exact .head _)
      refine comp_list (fun _ => true) rfl (by decide) (by rfl) (by rfl) (vs := vds ++ (List.replicate (7 - (vds.toArray.size : Int)).toNat [Value.int 0 tk5]).flatten) ⟨_, hfm.1, rfl, _, rfl⟩ hfm.2.1 (by have := hdf.1; rw [hlf]; simp only [sizeLine_eq]; omega) F20 N20
        (fun j ys nx => nx = NN ∧ IntsAre ys (((fullOf ds).take j).map fun d => 6 - d)) ⟨rfl, .nil⟩ ?_ ?_
      · rintro j v mC ys nx h11 tk11 own C oC D wr E' hv hmv hoC ⟨rfl, hys⟩ hoff hown F11 N11
        obtain ⟨dd, td, rfl, hdd⟩ := hif.at j v hv
        refine ⟨wpAny_tests_nil (CompT.intro F11 N11), (fun q => by cases q), ?_⟩
        intro h12 tk12 _ F12 N12
        clear F11 N11
        k_fold
        repeat' (first | (k_unfold; (try dsimp only)) | ((fail_if_success (with_reducible show wpAny _ _ (getMethod (Value.ref _) (Str.ofString "items") _) _ _ _)); (fail_if_success (with_reducible show wpAny _ _ (getMethod (Value.ref _) (Str.ofString "values") _) _ _ _)); (fail_if_success (with_reducible show wpAny _ _ (call (Value.builtin "dict.items") _) _ _ _)); (fail_if_success (with_reducible show wpAny _ _ (call (Value.builtin "dict.values") _) _ _ _)); (fail_if_success (with_reducible show wpAny _ _ (compareOp CmpOp.In (Value.ref _) (Value.ref _)) _ _ _)); (fail_if_success (with_reducible show wpAny _ _ (setItem (Value.ref _) (Value.ref _) _) _ _ _)); (fail_if_success (with_reducible show wpAny _ _ (subscriptTail _ _ (Value.ref _) (Value.ref _)) _ _ _)); (fail_if_success (with_reducible show wpAny _ _ (eval (Expr.Name (Str.ofString "k") _) (compEnvC _ _ _ _)) _ _ _)); (fail_if_success (with_reducible show wpAny _ _ (call (Value.builtin "list.append") _ _) _ _ _)); (fail_if_success (with_reducible show wpAny _ _ (subscriptTail _ (Expr.Slice _ _ _ _) (Value.ref _) (Value.ref _)) _ _ _)); (fail_if_success (with_reducible show wpAny _ _ (compareOp CmpOp.NotEq (Value.ref _) (Value.ref _)) _ _ _)); (fail_if_success (with_reducible show wpAny _ _ (compareOp CmpOp.Eq (Value.ref _) (Value.ref _)) _ _ _)); (fail_if_success (with_reducible show wpAny _ _ (compareOp CmpOp.Lt (Value.ref _) (Value.ref _)) _ _ _)); (fail_if_success (with_reducible show wpAny _ _ (call (Value.type "enumerate") _ _) _ _ _)); (fail_if_success (with_reducible show wpAny _ _ (exec (Stmt.While _ _ _ _) _) _ _ _)); (fail_if_success (with_reducible show wpAny _ _ (exec (Stmt.For _ _ _ _ _) _) _ _ _)); (fail_if_success (with_reducible show wpAny _ _ (call (Value.ref _) _ _) _ _ _)); (fail_if_success (with_reducible show wpAny _ _ (eval (Expr.ListComp _ _ _ _) _) _ _ _)); (fail_if_success (with_reducible show wpAny _ _ (subscriptTail _ _ (Value.ref _) (Value.int _ _)) _ _ _)); (fail_if_success (with_reducible show wpAny _ _ (setItem (Value.ref _) (Value.int _ _) _) _ _ _)); (fail_if_success (with_reducible show TupStores _ _ _ _ _ _ _ _)); (fail_if_success (with_reducible show wpAny _ _ (call (Value.builtin "len") _ _) _ _ _)); (fail_if_success (with_reducible show wpAny _ _ (call (Value.builtin "min") _ _) _ _ _)); (fail_if_success (with_reducible show wpAny _ _ (call (Value.builtin "max") _ _) _ _ _)); (fail_if_success (with_reducible show wpAny _ _ (call (Value.type "dict") _ _) _ _ _)); (fail_if_success (with_reducible show wpAny _ _ (eval (Expr.Dict _ _ _) _) _ _ _)); walk1; (try dsimp only)))
        rename Fr _ _ _ _ => F13
        rename News _ _ _ _ => N13
        refine CompQ.intro F13 N13 hoff ⟨rfl, ?_⟩
        have e1 : (fullOf ds).take (j + 1) = (fullOf ds).take j ++ [dd] := by simp [List.take_add_one, hdd]
        rw [e1, List.map_append]
        exact hys.append (.cons _ _ .nil)
      rintro D14 h14 tk14 ys nx F9 N9 hq14 ⟨rfl, hi9⟩
      rw [hlf, List.take_length] at hi9
      repeat' (first | (k_unfold; (try dsimp only)) | ((fail_if_success (with_reducible show wpAny _ _ (getMethod (Value.ref _) (Str.ofString "items") _) _ _ _)); (fail_if_success (with_reducible show wpAny _ _ (getMethod (Value.ref _) (Str.ofString "values") _) _ _ _)); (fail_if_success (with_reducible show wpAny _ _ (call (Value.builtin "dict.items") _) _ _ _)); (fail_if_success (with_reducible show wpAny _ _ (call (Value.builtin "dict.values") _) _ _ _)); (fail_if_success (with_reducible show wpAny _ _ (compareOp CmpOp.In (Value.ref _) (Value.ref _)) _ _ _)); (fail_if_success (with_reducible show wpAny _ _ (setItem (Value.ref _) (Value.ref _) _) _ _ _)); (fail_if_success (with_reducible show wpAny _ _ (subscriptTail _ _ (Value.ref _) (Value.ref _)) _ _ _)); (fail_if_success (with_reducible show wpAny _ _ (eval (Expr.Name (Str.ofString "k") _) (compEnvC _ _ _ _)) _ _ _)); (fail_if_success (with_reducible show wpAny _ _ (call (Value.builtin "list.append") _ _) _ _ _)); (fail_if_success (with_reducible show wpAny _ _ (subscriptTail _ (Expr.Slice _ _ _ _) (Value.ref _) (Value.ref _)) _ _ _)); (fail_if_success (with_reducible show wpAny _ _ (compareOp CmpOp.NotEq (Value.ref _) (Value.ref _)) _ _ _)); (fail_if_success (with_reducible show wpAny _ _ (compareOp CmpOp.Eq (Value.ref _) (Value.ref _)) _ _ _)); (fail_if_success (with_reducible show wpAny _ _ (compareOp CmpOp.Lt (Value.ref _) (Value.ref _)) _ _ _)); (fail_if_success (with_reducible show wpAny _ _ (call (Value.type "enumerate") _ _) _ _ _)); (fail_if_success (with_reducible show wpAny _ _ (exec (Stmt.While _ _ _ _) _) _ _ _)); (fail_if_success (with_reducible show wpAny _ _ (exec (Stmt.For _ _ _ _ _) _) _ _ _)); (fail_if_success (with_reducible show wpAny _ _ (call (Value.ref _) _ _) _ _ _)); (fail_if_success (with_reducible show wpAny _ _ (eval (Expr.ListComp _ _ _ _) _) _ _ _)); (fail_if_success (with_reducible show wpAny _ _ (subscriptTail _ _ (Value.ref _) (Value.int _ _)) _ _ _)); (fail_if_success (with_reducible show wpAny _ _ (setItem (Value.ref _) (Value.int _ _) _) _ _ _)); (fail_if_success (with_reducible show TupStores _ _ _ _ _ _ _ _)); (fail_if_success (with_reducible show wpAny _ _ (call (Value.builtin "len") _ _) _ _ _)); (fail_if_success (with_reducible show wpAny _ _ (call (Value.builtin "min") _ _) _ _ _)); (fail_if_success (with_reducible show wpAny _ _ (call (Value.builtin "max") _ _) _ _ _)); (fail_if_success (with_reducible show wpAny _ _ (call (Value.type "dict") _ _) _ _ _)); (fail_if_success (with_reducible show wpAny _ _ (eval (Expr.Dict _ _ _) _) _ _ _)); walk1; (try dsimp only)))
      have hdc := sub_degs hdf
      refine tied_spec (X0.keeps F9.keep) (T0.keeps F9.keep) (news_lst N9 (.head _)) hi9 (fun d h => (hdc.2 d h).1) hdc.1 (by decide) (by decide) ?_
      intro v10 h10 tk10 up10 hres10
      have F10 := F9.keeps up10
      have N10 := N9.keeps up10
      clear F9 N9
      cases htc : tied ((fullOf ds).map fun d => 6 - d) with
      | none => rw [htc] at hpf; cases hpf
      | some t10 =>
        rw [htc] at hres10
        obtain ⟨a10, _, _, _, rfl, _⟩ := hres10
        clear up10 hpf
        repeat' (first | (k_unfold; (try dsimp only)) | ((fail_if_success (with_reducible show wpAny _ _ (getMethod (Value.ref _) (Str.ofString "items") _) _ _ _)); (fail_if_success (with_reducible show wpAny _ _ (getMethod (Value.ref _) (Str.ofString "values") _) _ _ _)); (fail_if_success (with_reducible show wpAny _ _ (call (Value.builtin "dict.items") _) _ _ _)); (fail_if_success (with_reducible show wpAny _ _ (call (Value.builtin "dict.values") _) _ _ _)); (fail_if_success (with_reducible show wpAny _ _ (compareOp CmpOp.In (Value.ref _) (Value.ref _)) _ _ _)); (fail_if_success (with_reducible show wpAny _ _ (setItem (Value.ref _) (Value.ref _) _) _ _ _)); (fail_if_success (with_reducible show wpAny _ _ (subscriptTail _ _ (Value.ref _) (Value.ref _)) _ _ _)); (fail_if_success (with_reducible show wpAny _ _ (eval (Expr.Name (Str.ofString "k") _) (compEnvC _ _ _ _)) _ _ _)); (fail_if_success (with_reducible show wpAny _ _ (call (Value.builtin "list.append") _ _) _ _ _)); (fail_if_success (with_reducible show wpAny _ _ (subscriptTail _ (Expr.Slice _ _ _ _) (Value.ref _) (Value.ref _)) _ _ _)); (fail_if_success (with_reducible show wpAny _ _ (compareOp CmpOp.NotEq (Value.ref _) (Value.ref _)) _ _ _)); (fail_if_success (with_reducible show wpAny _ _ (compareOp CmpOp.Eq (Value.ref _) (Value.ref _)) _ _ _)); (fail_if_success (with_reducible show wpAny _ _ (compareOp CmpOp.Lt (Value.ref _) (Value.ref _)) _ _ _)); (fail_if_success (with_reducible show wpAny _ _ (call (Value.type "enumerate") _ _) _ _ _)); (fail_if_success (with_reducible show wpAny _ _ (exec (Stmt.While _ _ _ _) _) _ _ _)); (fail_if_success (with_reducible show wpAny _ _ (exec (Stmt.For _ _ _ _ _) _) _ _ _)); (fail_if_success (with_reducible show wpAny _ _ (call (Value.ref _) _ _) _ _ _)); (fail_if_success (with_reducible show wpAny _ _ (eval (Expr.ListComp _ _ _ _) _) _ _ _)); (fail_if_success (with_reducible show wpAny _ _ (subscriptTail _ _ (Value.ref _) (Value.int _ _)) _ _ _)); (fail_if_success (with_reducible show wpAny _ _ (setItem (Value.ref _) (Value.int _ _) _) _ _ _)); (fail_if_success (with_reducible show TupStores _ _ _ _ _ _ _ _)); (fail_if_success (with_reducible show wpAny _ _ (call (Value.builtin "len") _ _) _ _ _)); (fail_if_success (with_reducible show wpAny _ _ (call (Value.builtin "min") _ _) _ _ _)); (fail_if_success (with_reducible show wpAny _ _ (call (Value.builtin "max") _ _) _ _ _)); (fail_if_success (with_reducible show wpAny _ _ (call (Value.type "dict") _ _) _ _ _)); (fail_if_success (with_reducible show wpAny _ _ (eval (Expr.Dict _ _ _) _) _ _ _)); walk1; (try dsimp only)))
        have N11 := N10.perm (news' := (al, listOf items.toArray na) :: (dl, LCg.lst vds) :: tups) (by subst hNN; intro p hp; simp at hp ⊢; rcases hp with rfl | rfl | hp <;> simp [*])
        clear N10 N20 hNN
        refine my_comp (cl := []) (by with_unfolding_all rfl) (by rfl) (by decide) ?_
        repeat' (first | (k_unfold; (try dsimp only)) | ((fail_if_success (with_reducible show wpAny _ _ (getMethod (Value.ref _) (Str.ofString "items") _) _ _ _)); (fail_if_success (with_reducible show wpAny _ _ (getMethod (Value.ref _) (Str.ofString "values") _) _ _ _)); (fail_if_success (with_reducible show wpAny _ _ (call (Value.builtin "dict.items") _) _ _ _)); (fail_if_success (with_reducible show wpAny _ _ (call (Value.builtin "dict.values") _) _ _ _)); (fail_if_success (with_reducible show wpAny _ _ (compareOp CmpOp.In (Value.ref _) (Value.ref _)) _ _ _)); (fail_if_success (with_reducible show wpAny _ _ (setItem (Value.ref _) (Value.ref _) _) _ _ _)); (fail_if_success (with_reducible show wpAny _ _ (subscriptTail _ _ (Value.ref _) (Value.ref _)) _ _ _)); (fail_if_success (with_reducible show wpAny _ _ (eval (Expr.Name (Str.ofString "k") _) (compEnvC _ _ _ _)) _ _ _)); (fail_if_success (with_reducible show wpAny _ _ (call (Value.builtin "list.append") _ _) _ _ _)); (fail_if_success (with_reducible show wpAny _ _ (subscriptTail _ (Expr.Slice _ _ _ _) (Value.ref _) (Value.ref _)) _ _ _)); (fail_if_success (with_reducible show wpAny _ _ (compareOp CmpOp.NotEq (Value.ref _) (Value.ref _)) _ _ _)); (fail_if_success (with_reducible show wpAny _ _ (compareOp CmpOp.Eq (Value.ref _) (Value.ref _)) _ _ _)); (fail_if_success (with_reducible show wpAny _ _ (compareOp CmpOp.Lt (Value.ref _) (Value.ref _)) _ _ _)); (fail_if_success (with_reducible show wpAny _ _ (call (Value.type "enumerate") _ _) _ _ _)); (fail_if_success (with_reducible show wpAny _ _ (exec (Stmt.While _ _ _ _) _) _ _ _)); (fail_if_success (with_reducible show wpAny _ _ (exec (Stmt.For _ _ _ _ _) _) _ _ _)); (fail_if_success (with_reducible show wpAny _ _ (call (Value.ref _) _ _) _ _ _)); (fail_if_success (with_reducible show wpAny _ _ (eval (Expr.ListComp _ _ _ _) _) _ _ _)); (fail_if_success (with_reducible show wpAny _ _ (subscriptTail _ _ (Value.ref _) (Value.int _ _)) _ _ _)); (fail_if_success (with_reducible show wpAny _ _ (setItem (Value.ref _) (Value.int _ _) _) _ _ _)); (fail_if_success (with_reducible show TupStores _ _ _ _ _ _ _ _)); (fail_if_success (with_reducible show wpAny _ _ (call (Value.builtin "len") _ _) _ _ _)); (fail_if_success (with_reducible show wpAny _ _ (call (Value.builtin "min") _ _) _ _ _)); (fail_if_success (with_reducible show wpAny _ _ (call (Value.builtin "max") _ _) _ _ _)); (fail_if_success (with_reducible show wpAny _ _ (call (Value.type "dict") _ _) _ _ _)); (fail_if_success (with_reducible show wpAny _ _ (eval (Expr.Dict _ _ _) _) _ _ _)); walk1; (try dsimp only)))
        obtain ⟨NN, hNN, N11⟩ : ∃ NN, NN = _ ∧ News _ _ _ NN := ⟨_, rfl, N11⟩
        have htm : ∀ q ∈ tups, q ∈ NN := fun q hq => by rw [hNN]; exact .tail _ (.tail _ hq)
        have ham : (al, listOf items.toArray na) ∈ NN := by rw [hNN]; exact .head _
        have hil := hall.length
        have htl := p_len hds htd
        have hns := p_noself hds htd
        have hrg := p_range hds htd
        have hhit : ∀ (j : Nat) (v : Value), items[j]? = some v → ∃ (T : Addr) (a b : Value), v = Value.ref T ∧ (∃ o : Obj, (T, o) ∈ tups ∧ o.cls = Value.type "tuple" ∧ ∃ n, o.data = Data.seq #[a, b] n) ∧ ∃ (p : Int × Int) (t u : Tok), ties[j]? = some p ∧ a = Value.int p.1 t ∧ b = Value.int p.2 u := by
          intro j v hv
          obtain ⟨p, hp, T, t, u, nT, rfl, hm⟩ := hall.get? hv
          exact ⟨T, _, _, rfl, ⟨_, hm, rfl, nT, rfl⟩, p, t, u, hp, rfl, rfl⟩
        refine comp_pairs (Rl := fun j a b => ∃ (p : Int × Int) (t u : Tok), ties[j]? = some p ∧ a = Value.int p.1 t ∧ b = Value.int p.2 u) (vs := items) (fun _ => false) rfl (by decide) (by rfl) (by rfl) (by rfl) (by decide) (news_list N11 ham) (N11 _ ham).2.1 (by rw [hil]; simp only [sizeLine_eq]; omega) F10 N11
          (fun j ys nx => nx = NN ∧ ys = []) ⟨rfl, rfl⟩ ?_ ?_ ?_
        · intro j v hv
          obtain ⟨T, a, b, rfl, ⟨o, hm, hc, n, hd⟩, r⟩ := hhit j v hv
          exact ⟨T, a, b, rfl, (N11 _ (htm _ hm)).2.1, ⟨o, (N11 _ (htm _ hm)).1, hc, n, hd⟩, r⟩
        · rintro i v0 v1 mC ys nx h12 tk12 own C oC D wr E' hi ⟨p, t, u, hp, rfl, rfl⟩ ⟨hm0, hm1⟩ hoC ⟨rfl, rfl⟩ hoff hown F12 N12
          have hpn := hns p (List.mem_of_getElem? hp)
          refine ⟨wpAny_tests_one ?_, fun _ => ⟨rfl, rfl⟩, fun _ _ q => by cases q⟩
          k_fold
          repeat' (first | (k_unfold; (try dsimp only)) | ((fail_if_success (with_reducible show wpAny _ _ (getMethod (Value.ref _) (Str.ofString "items") _) _ _ _)); (fail_if_success (with_reducible show wpAny _ _ (getMethod (Value.ref _) (Str.ofString "values") _) _ _ _)); (fail_if_success (with_reducible show wpAny _ _ (call (Value.builtin "dict.items") _) _ _ _)); (fail_if_success (with_reducible show wpAny _ _ (call (Value.builtin "dict.values") _) _ _ _)); (fail_if_success (with_reducible show wpAny _ _ (compareOp CmpOp.In (Value.ref _) (Value.ref _)) _ _ _)); (fail_if_success (with_reducible show wpAny _ _ (setItem (Value.ref _) (Value.ref _) _) _ _ _)); (fail_if_success (with_reducible show wpAny _ _ (subscriptTail _ _ (Value.ref _) (Value.ref _)) _ _ _)); (fail_if_success (with_reducible show wpAny _ _ (eval (Expr.Name (Str.ofString "k") _) (compEnvC _ _ _ _)) _ _ _)); (fail_if_success (with_reducible show wpAny _ _ (call (Value.builtin "list.append") _ _) _ _ _)); (fail_if_success (with_reducible show wpAny _ _ (subscriptTail _ (Expr.Slice _ _ _ _) (Value.ref _) (Value.ref _)) _ _ _)); (fail_if_success (with_reducible show wpAny _ _ (compareOp CmpOp.NotEq (Value.ref _) (Value.ref _)) _ _ _)); (fail_if_success (with_reducible show wpAny _ _ (compareOp CmpOp.Eq (Value.ref _) (Value.ref _)) _ _ _)); (fail_if_success (with_reducible show wpAny _ _ (compareOp CmpOp.Lt (Value.ref _) (Value.ref _)) _ _ _)); (fail_if_success (with_reducible show wpAny _ _ (call (Value.type "enumerate") _ _) _ _ _)); (fail_if_success (with_reducible show wpAny _ _ (exec (Stmt.While _ _ _ _) _) _ _ _)); (fail_if_success (with_reducible show wpAny _ _ (exec (Stmt.For _ _ _ _ _) _) _ _ _)); (fail_if_success (with_reducible show wpAny _ _ (call (Value.ref _) _ _) _ _ _)); (fail_if_success (with_reducible show wpAny _ _ (eval (Expr.ListComp _ _ _ _) _) _ _ _)); (fail_if_success (with_reducible show wpAny _ _ (subscriptTail _ _ (Value.ref _) (Value.int _ _)) _ _ _)); (fail_if_success (with_reducible show wpAny _ _ (setItem (Value.ref _) (Value.int _ _) _) _ _ _)); (fail_if_success (with_reducible show TupStores _ _ _ _ _ _ _ _)); (fail_if_success (with_reducible show wpAny _ _ (call (Value.builtin "len") _ _) _ _ _)); (fail_if_success (with_reducible show wpAny _ _ (call (Value.builtin "min") _ _) _ _ _)); (fail_if_success (with_reducible show wpAny _ _ (call (Value.builtin "max") _ _) _ _ _)); (fail_if_success (with_reducible show wpAny _ _ (call (Value.type "dict") _ _) _ _ _)); (fail_if_success (with_reducible show wpAny _ _ (eval (Expr.Dict _ _ _) _) _ _ _)); walk1; (try dsimp only)))
          rw [show (p.1 == p.2) = false from by simpa using hpn]
          exact CompT.intro F12 N12
        rintro D13 h13 tk13 ys nx F13 N13 hq13 ⟨rfl, rfl⟩
        repeat' (first | (k_unfold; (try dsimp only)) | ((fail_if_success (with_reducible show wpAny _ _ (getMethod (Value.ref _) (Str.ofString "items") _) _ _ _)); (fail_if_success (with_reducible show wpAny _ _ (getMethod (Value.ref _) (Str.ofString "values") _) _ _ _)); (fail_if_success (with_reducible show wpAny _ _ (call (Value.builtin "dict.items") _) _ _ _)); (fail_if_success (with_reducible show wpAny _ _ (call (Value.builtin "dict.values") _) _ _ _)); (fail_if_success (with_reducible show wpAny _ _ (compareOp CmpOp.In (Value.ref _) (Value.ref _)) _ _ _)); (fail_if_success (with_reducible show wpAny _ _ (setItem (Value.ref _) (Value.ref _) _) _ _ _)); (fail_if_success (with_reducible show wpAny _ _ (subscriptTail _ _ (Value.ref _) (Value.ref _)) _ _ _)); (fail_if_success (with_reducible show wpAny _ _ (eval (Expr.Name (Str.ofString "k") _) (compEnvC _ _ _ _)) _ _ _)); (fail_if_success (with_reducible show wpAny _ _ (call (Value.builtin "list.append") _ _) _ _ _)); (fail_if_success (with_reducible show wpAny _ _ (subscriptTail _ (Expr.Slice _ _ _ _) (Value.ref _) (Value.ref _)) _ _ _)); (fail_if_success (with_reducible show wpAny _ _ (compareOp CmpOp.NotEq (Value.ref _) (Value.ref _)) _ _ _)); (fail_if_success (with_reducible show wpAny _ _ (compareOp CmpOp.Eq (Value.ref _) (Value.ref _)) _ _ _)); (fail_if_success (with_reducible show wpAny _ _ (compareOp CmpOp.Lt (Value.ref _) (Value.ref _)) _ _ _)); (fail_if_success (with_reducible show wpAny _ _ (call (Value.type "enumerate") _ _) _ _ _)); (fail_if_success (with_reducible show wpAny _ _ (exec (Stmt.While _ _ _ _) _) _ _ _)); (fail_if_success (with_reducible show wpAny _ _ (exec (Stmt.For _ _ _ _ _) _) _ _ _)); (fail_if_success (with_reducible show wpAny _ _ (call (Value.ref _) _ _) _ _ _)); (fail_if_success (with_reducible show wpAny _ _ (eval (Expr.ListComp _ _ _ _) _) _ _ _)); (fail_if_success (with_reducible show wpAny _ _ (subscriptTail _ _ (Value.ref _) (Value.int _ _)) _ _ _)); (fail_if_success (with_reducible show wpAny _ _ (setItem (Value.ref _) (Value.int _ _) _) _ _ _)); (fail_if_success (with_reducible show TupStores _ _ _ _ _ _ _ _)); (fail_if_success (with_reducible show wpAny _ _ (call (Value.builtin "len") _ _) _ _ _)); (fail_if_success (with_reducible show wpAny _ _ (call (Value.builtin "min") _ _) _ _ _)); (fail_if_success (with_reducible show wpAny _ _ (call (Value.builtin "max") _ _) _ _ _)); (fail_if_success (with_reducible show wpAny _ _ (call (Value.type "dict") _ _) _ _ _)); (fail_if_success (with_reducible show wpAny _ _ (eval (Expr.Dict _ _ _) _) _ _ _)); walk1; (try dsimp only)))
        rename Fr _ _ _ _ => F14
        rename News _ _ _ _ => N14
        refine ne_nil (items := []) (news_lst N14 (.tail _ (.head _))) (news_list N14 (.head _)) (un_law0 _) ?_
        repeat' (first | (k_unfold; (try dsimp only)) | ((fail_if_success (with_reducible show wpAny _ _ (getMethod (Value.ref _) (Str.ofString "items") _) _ _ _)); (fail_if_success (with_reducible show wpAny _ _ (getMethod (Value.ref _) (Str.ofString "values") _) _ _ _)); (fail_if_success (with_reducible show wpAny _ _ (call (Value.builtin "dict.items") _) _ _ _)); (fail_if_success (with_reducible show wpAny _ _ (call (Value.builtin "dict.values") _) _ _ _)); (fail_if_success (with_reducible show wpAny _ _ (compareOp CmpOp.In (Value.ref _) (Value.ref _)) _ _ _)); (fail_if_success (with_reducible show wpAny _ _ (setItem (Value.ref _) (Value.ref _) _) _ _ _)); (fail_if_success (with_reducible show wpAny _ _ (subscriptTail _ _ (Value.ref _) (Value.ref _)) _ _ _)); (fail_if_success (with_reducible show wpAny _ _ (eval (Expr.Name (Str.ofString "k") _) (compEnvC _ _ _ _)) _ _ _)); (fail_if_success (with_reducible show wpAny _ _ (call (Value.builtin "list.append") _ _) _ _ _)); (fail_if_success (with_reducible show wpAny _ _ (subscriptTail _ (Expr.Slice _ _ _ _) (Value.ref _) (Value.ref _)) _ _ _)); (fail_if_success (with_reducible show wpAny _ _ (compareOp CmpOp.NotEq (Value.ref _) (Value.ref _)) _ _ _)); (fail_if_success (with_reducible show wpAny _ _ (compareOp CmpOp.Eq (Value.ref _) (Value.ref _)) _ _ _)); (fail_if_success (with_reducible show wpAny _ _ (compareOp CmpOp.Lt (Value.ref _) (Value.ref _)) _ _ _)); (fail_if_success (with_reducible show wpAny _ _ (call (Value.type "enumerate") _ _) _ _ _)); (fail_if_success (with_reducible show wpAny _ _ (exec (Stmt.While _ _ _ _) _) _ _ _)); (fail_if_success (with_reducible show wpAny _ _ (exec (Stmt.For _ _ _ _ _) _) _ _ _)); (fail_if_success (with_reducible show wpAny _ _ (call (Value.ref _) _ _) _ _ _)); (fail_if_success (with_reducible show wpAny _ _ (eval (Expr.ListComp _ _ _ _) _) _ _ _)); (fail_if_success (with_reducible show wpAny _ _ (subscriptTail _ _ (Value.ref _) (Value.int _ _)) _ _ _)); (fail_if_success (with_reducible show wpAny _ _ (setItem (Value.ref _) (Value.int _ _) _) _ _ _)); (fail_if_success (with_reducible show TupStores _ _ _ _ _ _ _ _)); (fail_if_success (with_reducible show wpAny _ _ (call (Value.builtin "len") _ _) _ _ _)); (fail_if_success (with_reducible show wpAny _ _ (call (Value.builtin "min") _ _) _ _ _)); (fail_if_success (with_reducible show wpAny _ _ (call (Value.builtin "max") _ _) _ _ _)); (fail_if_success (with_reducible show wpAny _ _ (call (Value.type "dict") _ _) _ _ _)); (fail_if_success (with_reducible show wpAny _ _ (eval (Expr.Dict _ _ _) _) _ _ _)); walk1; (try dsimp only)))
        have N15 : News _ _ _ nx := fun q hq => N14 q (.tail _ (.tail _ hq))
        clear N14
        refine my_comp (cl := []) (by with_unfolding_all rfl) (by rfl) (by decide) ?_
        repeat' (first | (k_unfold; (try dsimp only)) | ((fail_if_success (with_reducible show wpAny _ _ (getMethod (Value.ref _) (Str.ofString "items") _) _ _ _)); (fail_if_success (with_reducible show wpAny _ _ (getMethod (Value.ref _) (Str.ofString "values") _) _ _ _)); (fail_if_success (with_reducible show wpAny _ _ (call (Value.builtin "dict.items") _) _ _ _)); (fail_if_success (with_reducible show wpAny _ _ (call (Value.builtin "dict.values") _) _ _ _)); (fail_if_success (with_reducible show wpAny _ _ (compareOp CmpOp.In (Value.ref _) (Value.ref _)) _ _ _)); (fail_if_success (with_reducible show wpAny _ _ (setItem (Value.ref _) (Value.ref _) _) _ _ _)); (fail_if_success (with_reducible show wpAny _ _ (subscriptTail _ _ (Value.ref _) (Value.ref _)) _ _ _)); (fail_if_success (with_reducible show wpAny _ _ (eval (Expr.Name (Str.ofString "k") _) (compEnvC _ _ _ _)) _ _ _)); (fail_if_success (with_reducible show wpAny _ _ (call (Value.builtin "list.append") _ _) _ _ _)); (fail_if_success (with_reducible show wpAny _ _ (subscriptTail _ (Expr.Slice _ _ _ _) (Value.ref _) (Value.ref _)) _ _ _)); (fail_if_success (with_reducible show wpAny _ _ (compareOp CmpOp.NotEq (Value.ref _) (Value.ref _)) _ _ _)); (fail_if_success (with_reducible show wpAny _ _ (compareOp CmpOp.Eq (Value.ref _) (Value.ref _)) _ _ _)); (fail_if_success (with_reducible show wpAny _ _ (compareOp CmpOp.Lt (Value.ref _) (Value.ref _)) _ _ _)); (fail_if_success (with_reducible show wpAny _ _ (call (Value.type "enumerate") _ _) _ _ _)); (fail_if_success (with_reducible show wpAny _ _ (exec (Stmt.While _ _ _ _) _) _ _ _)); (fail_if_success (with_reducible show wpAny _ _ (exec (Stmt.For _ _ _ _ _) _) _ _ _)); (fail_if_success (with_reducible show wpAny _ _ (call (Value.ref _) _ _) _ _ _)); (fail_if_success (with_reducible show wpAny _ _ (eval (Expr.ListComp _ _ _ _) _) _ _ _)); (fail_if_success (with_reducible show wpAny _ _ (subscriptTail _ _ (Value.ref _) (Value.int _ _)) _ _ _)); (fail_if_success (with_reducible show wpAny _ _ (setItem (Value.ref _) (Value.int _ _) _) _ _ _)); (fail_if_success (with_reducible show TupStores _ _ _ _ _ _ _ _)); (fail_if_success (with_reducible show wpAny _ _ (call (Value.builtin "len") _ _) _ _ _)); (fail_if_success (with_reducible show wpAny _ _ (call (Value.builtin "min") _ _) _ _ _)); (fail_if_success (with_reducible show wpAny _ _ (call (Value.builtin "max") _ _) _ _ _)); (fail_if_success (with_reducible show wpAny _ _ (call (Value.type "dict") _ _) _ _ _)); (fail_if_success (with_reducible show wpAny _ _ (eval (Expr.Dict _ _ _) _) _ _ _)); walk1; (try dsimp only)))
        refine comp_list (vs := items) (fun _ => true) rfl (by decide) (by rfl) (by rfl) (news_list N15 ham) (N15 _ ham).2.1 (by rw [hil]; simp only [sizeLine_eq]; omega) F14 N15
          (fun j ys nx' => (∀ q ∈ nx, q ∈ nx') ∧ All2 (PairIn PySem.Challenge.rw_zs0001_01.row.prog w0 nx') ys (mmT (ties.take j))) ⟨fun _ h => h, .nil⟩ ?_ ?_
        · rintro j v mC ys nx' h16 tk16 own C oC D wr E' hv hmv hoC ⟨hsub, hys⟩ hoff hown F16 N16
          obtain ⟨T, a, b, rfl, ⟨o, hm, hc, n, hd⟩, p, t, u, hp, rfl, rfl⟩ := hhit j v hv
          refine ⟨wpAny_tests_nil (CompT.intro F16 N16), (fun q => by cases q), ?_⟩
          intro h17 tk17 _ F17 N17
          clear F16 N16
          k_fold
          repeat' (first | (k_unfold; (try dsimp only)) | ((fail_if_success (with_reducible show wpAny _ _ (getMethod (Value.ref _) (Str.ofString "items") _) _ _ _)); (fail_if_success (with_reducible show wpAny _ _ (getMethod (Value.ref _) (Str.ofString "values") _) _ _ _)); (fail_if_success (with_reducible show wpAny _ _ (call (Value.builtin "dict.items") _) _ _ _)); (fail_if_success (with_reducible show wpAny _ _ (call (Value.builtin "dict.values") _) _ _ _)); (fail_if_success (with_reducible show wpAny _ _ (compareOp CmpOp.In (Value.ref _) (Value.ref _)) _ _ _)); (fail_if_success (with_reducible show wpAny _ _ (setItem (Value.ref _) (Value.ref _) _) _ _ _)); (fail_if_success (with_reducible show wpAny _ _ (subscriptTail _ _ (Value.ref _) (Value.ref _)) _ _ _)); (fail_if_success (with_reducible show wpAny _ _ (eval (Expr.Name (Str.ofString "k") _) (compEnvC _ _ _ _)) _ _ _)); (fail_if_success (with_reducible show wpAny _ _ (call (Value.builtin "list.append") _ _) _ _ _)); (fail_if_success (with_reducible show wpAny _ _ (subscriptTail _ (Expr.Slice _ _ _ _) (Value.ref _) (Value.ref _)) _ _ _)); (fail_if_success (with_reducible show wpAny _ _ (compareOp CmpOp.NotEq (Value.ref _) (Value.ref _)) _ _ _)); (fail_if_success (with_reducible show wpAny _ _ (compareOp CmpOp.Eq (Value.ref _) (Value.ref _)) _ _ _)); (fail_if_success (with_reducible show wpAny _ _ (compareOp CmpOp.Lt (Value.ref _) (Value.ref _)) _ _ _)); (fail_if_success (with_reducible show wpAny _ _ (call (Value.type "enumerate") _ _) _ _ _)); (fail_if_success (with_reducible show wpAny _ _ (exec (Stmt.While _ _ _ _) _) _ _ _)); (fail_if_success (with_reducible show wpAny _ _ (exec (Stmt.For _ _ _ _ _) _) _ _ _)); (fail_if_success (with_reducible show wpAny _ _ (call (Value.ref _) _ _) _ _ _)); (fail_if_success (with_reducible show wpAny _ _ (eval (Expr.ListComp _ _ _ _) _) _ _ _)); (fail_if_success (with_reducible show wpAny _ _ (subscriptTail _ _ (Value.ref _) (Value.int _ _)) _ _ _)); (fail_if_success (with_reducible show wpAny _ _ (setItem (Value.ref _) (Value.int _ _) _) _ _ _)); (fail_if_success (with_reducible show TupStores _ _ _ _ _ _ _ _)); (fail_if_success (with_reducible show wpAny _ _ (call (Value.builtin "len") _ _) _ _ _)); (fail_if_success (with_reducible show wpAny _ _ (call (Value.builtin "min") _ _) _ _ _)); (fail_if_success (with_reducible show wpAny _ _ (call (Value.builtin "max") _ _) _ _ _)); (fail_if_success (with_reducible show wpAny _ _ (call (Value.type "dict") _ _) _ _ _)); (fail_if_success (with_reducible show wpAny _ _ (eval (Expr.Dict _ _ _) _) _ _ _)); walk1; (try dsimp only)))
          have hT17 : h17.IsTuple T #[Value.int p.1 t, Value.int p.2 u] := ⟨o, (N17 _ (List.mem_append_right _ (.tail _ (.tail _ (hsub _ (htm _ hm)))))).1, hc, n, hd⟩
          refine min_pair rfl hT17 ?_
          intro tok18 h18 tk18 up18
          have F18 := F17.keeps up18
          have N18 := N17.keeps up18
          have hT18 := hT17.at fun o e => up18 T o e
          clear F17 N17 hT17 up18
          repeat' (first | (k_unfold; (try dsimp only)) | ((fail_if_success (with_reducible show wpAny _ _ (getMethod (Value.ref _) (Str.ofString "items") _) _ _ _)); (fail_if_success (with_reducible show wpAny _ _ (getMethod (Value.ref _) (Str.ofString "values") _) _ _ _)); (fail_if_success (with_reducible show wpAny _ _ (call (Value.builtin "dict.items") _) _ _ _)); (fail_if_success (with_reducible show wpAny _ _ (call (Value.builtin "dict.values") _) _ _ _)); (fail_if_success (with_reducible show wpAny _ _ (compareOp CmpOp.In (Value.ref _) (Value.ref _)) _ _ _)); (fail_if_success (with_reducible show wpAny _ _ (setItem (Value.ref _) (Value.ref _) _) _ _ _)); (fail_if_success (with_reducible show wpAny _ _ (subscriptTail _ _ (Value.ref _) (Value.ref _)) _ _ _)); (fail_if_success (with_reducible show wpAny _ _ (eval (Expr.Name (Str.ofString "k") _) (compEnvC _ _ _ _)) _ _ _)); (fail_if_success (with_reducible show wpAny _ _ (call (Value.builtin "list.append") _ _) _ _ _)); (fail_if_success (with_reducible show wpAny _ _ (subscriptTail _ (Expr.Slice _ _ _ _) (Value.ref _) (Value.ref _)) _ _ _)); (fail_if_success (with_reducible show wpAny _ _ (compareOp CmpOp.NotEq (Value.ref _) (Value.ref _)) _ _ _)); (fail_if_success (with_reducible show wpAny _ _ (compareOp CmpOp.Eq (Value.ref _) (Value.ref _)) _ _ _)); (fail_if_success (with_reducible show wpAny _ _ (compareOp CmpOp.Lt (Value.ref _) (Value.ref _)) _ _ _)); (fail_if_success (with_reducible show wpAny _ _ (call (Value.type "enumerate") _ _) _ _ _)); (fail_if_success (with_reducible show wpAny _ _ (exec (Stmt.While _ _ _ _) _) _ _ _)); (fail_if_success (with_reducible show wpAny _ _ (exec (Stmt.For _ _ _ _ _) _) _ _ _)); (fail_if_success (with_reducible show wpAny _ _ (call (Value.ref _) _ _) _ _ _)); (fail_if_success (with_reducible show wpAny _ _ (eval (Expr.ListComp _ _ _ _) _) _ _ _)); (fail_if_success (with_reducible show wpAny _ _ (subscriptTail _ _ (Value.ref _) (Value.int _ _)) _ _ _)); (fail_if_success (with_reducible show wpAny _ _ (setItem (Value.ref _) (Value.int _ _) _) _ _ _)); (fail_if_success (with_reducible show TupStores _ _ _ _ _ _ _ _)); (fail_if_success (with_reducible show wpAny _ _ (call (Value.builtin "len") _ _) _ _ _)); (fail_if_success (with_reducible show wpAny _ _ (call (Value.builtin "min") _ _) _ _ _)); (fail_if_success (with_reducible show wpAny _ _ (call (Value.builtin "max") _ _) _ _ _)); (fail_if_success (with_reducible show wpAny _ _ (call (Value.type "dict") _ _) _ _ _)); (fail_if_success (with_reducible show wpAny _ _ (eval (Expr.Dict _ _ _) _) _ _ _)); walk1; (try dsimp only)))
          refine max_pair rfl hT18 ?_
          intro tok19 h19 tk19 up19
          have F19 := F18.keeps up19
          have N19 := N18.keeps up19
          clear F18 N18 hT18 up19
          repeat' (first | (k_unfold; (try dsimp only)) | ((fail_if_success (with_reducible show wpAny _ _ (getMethod (Value.ref _) (Str.ofString "items") _) _ _ _)); (fail_if_success (with_reducible show wpAny _ _ (getMethod (Value.ref _) (Str.ofString "values") _) _ _ _)); (fail_if_success (with_reducible show wpAny _ _ (call (Value.builtin "dict.items") _) _ _ _)); (fail_if_success (with_reducible show wpAny _ _ (call (Value.builtin "dict.values") _) _ _ _)); (fail_if_success (with_reducible show wpAny _ _ (compareOp CmpOp.In (Value.ref _) (Value.ref _)) _ _ _)); (fail_if_success (with_reducible show wpAny _ _ (setItem (Value.ref _) (Value.ref _) _) _ _ _)); (fail_if_success (with_reducible show wpAny _ _ (subscriptTail _ _ (Value.ref _) (Value.ref _)) _ _ _)); (fail_if_success (with_reducible show wpAny _ _ (eval (Expr.Name (Str.ofString "k") _) (compEnvC _ _ _ _)) _ _ _)); (fail_if_success (with_reducible show wpAny _ _ (call (Value.builtin "list.append") _ _) _ _ _)); (fail_if_success (with_reducible show wpAny _ _ (subscriptTail _ (Expr.Slice _ _ _ _) (Value.ref _) (Value.ref _)) _ _ _)); (fail_if_success (with_reducible show wpAny _ _ (compareOp CmpOp.NotEq (Value.ref _) (Value.ref _)) _ _ _)); (fail_if_success (with_reducible show wpAny _ _ (compareOp CmpOp.Eq (Value.ref _) (Value.ref _)) _ _ _)); (fail_if_success (with_reducible show wpAny _ _ (compareOp CmpOp.Lt (Value.ref _) (Value.ref _)) _ _ _)); (fail_if_success (with_reducible show wpAny _ _ (call (Value.type "enumerate") _ _) _ _ _)); (fail_if_success (with_reducible show wpAny _ _ (exec (Stmt.While _ _ _ _) _) _ _ _)); (fail_if_success (with_reducible show wpAny _ _ (exec (Stmt.For _ _ _ _ _) _) _ _ _)); (fail_if_success (with_reducible show wpAny _ _ (call (Value.ref _) _ _) _ _ _)); (fail_if_success (with_reducible show wpAny _ _ (eval (Expr.ListComp _ _ _ _) _) _ _ _)); (fail_if_success (with_reducible show wpAny _ _ (subscriptTail _ _ (Value.ref _) (Value.int _ _)) _ _ _)); (fail_if_success (with_reducible show wpAny _ _ (setItem (Value.ref _) (Value.int _ _) _) _ _ _)); (fail_if_success (with_reducible show TupStores _ _ _ _ _ _ _ _)); (fail_if_success (with_reducible show wpAny _ _ (call (Value.builtin "len") _ _) _ _ _)); (fail_if_success (with_reducible show wpAny _ _ (call (Value.builtin "min") _ _) _ _ _)); (fail_if_success (with_reducible show wpAny _ _ (call (Value.builtin "max") _ _) _ _ _)); (fail_if_success (with_reducible show wpAny _ _ (call (Value.type "dict") _ _) _ _ _)); (fail_if_success (with_reducible show wpAny _ _ (eval (Expr.Dict _ _ _) _) _ _ _)); walk1; (try dsimp only)))
          rename Fr _ _ _ _ => F20
          rename News _ _ _ _ => N20
          rename_i K20 _ hK20 P20 _ hP20
          obtain ⟨N21, hoff21⟩ := comp_new (new := [(P20, _), (K20, _)]) N20 (by
            intro q hq p hp
            simp only [List.mem_cons, List.not_mem_nil, or_false] at hq
            rcases hq with rfl | rfl
            · exact allLt_mem hP20.2 p hp
            · exact hK20 p hp) hown hoff
          refine CompQ.intro F20 N21 hoff21 ⟨fun q hq => .tail _ (.tail _ (hsub q hq)), ?_⟩
          rw [mmT_snoc hp]
          exact (hys.mono fun v t r => r.mono fun q hq => .tail _ (.tail _ hq)).append (.cons ⟨P20, K20, _, _, _, rfl, .head _, rfl, rfl, _, .tail _ (.head _), rfl, _, _, rfl, .cons (by simp [mix, MK.is, Value.isInt]) (.cons (by simp [mix, MK.is, Value.isInt]) .nil)⟩ .nil)
        rintro D22 h22 tk22 ys nx22 F22 N22 hq22 ⟨hsub22, hys22⟩
        rw [hil, List.take_length] at hys22
        repeat' (first | (k_unfold; (try dsimp only)) | ((fail_if_success (with_reducible show wpAny _ _ (getMethod (Value.ref _) (Str.ofString "items") _) _ _ _)); (fail_if_success (with_reducible show wpAny _ _ (getMethod (Value.ref _) (Str.ofString "values") _) _ _ _)); (fail_if_success (with_reducible show wpAny _ _ (call (Value.builtin "dict.items") _) _ _ _)); (fail_if_success (with_reducible show wpAny _ _ (call (Value.builtin "dict.values") _) _ _ _)); (fail_if_success (with_reducible show wpAny _ _ (compareOp CmpOp.In (Value.ref _) (Value.ref _)) _ _ _)); (fail_if_success (with_reducible show wpAny _ _ (setItem (Value.ref _) (Value.ref _) _) _ _ _)); (fail_if_success (with_reducible show wpAny _ _ (subscriptTail _ _ (Value.ref _) (Value.ref _)) _ _ _)); (fail_if_success (with_reducible show wpAny _ _ (eval (Expr.Name (Str.ofString "k") _) (compEnvC _ _ _ _)) _ _ _)); (fail_if_success (with_reducible show wpAny _ _ (call (Value.builtin "list.append") _ _) _ _ _)); (fail_if_success (with_reducible show wpAny _ _ (subscriptTail _ (Expr.Slice _ _ _ _) (Value.ref _) (Value.ref _)) _ _ _)); (fail_if_success (with_reducible show wpAny _ _ (compareOp CmpOp.NotEq (Value.ref _) (Value.ref _)) _ _ _)); (fail_if_success (with_reducible show wpAny _ _ (compareOp CmpOp.Eq (Value.ref _) (Value.ref _)) _ _ _)); (fail_if_success (with_reducible show wpAny _ _ (compareOp CmpOp.Lt (Value.ref _) (Value.ref _)) _ _ _)); (fail_if_success (with_reducible show wpAny _ _ (call (Value.type "enumerate") _ _) _ _ _)); (fail_if_success (with_reducible show wpAny _ _ (exec (Stmt.While _ _ _ _) _) _ _ _)); (fail_if_success (with_reducible show wpAny _ _ (exec (Stmt.For _ _ _ _ _) _) _ _ _)); (fail_if_success (with_reducible show wpAny _ _ (call (Value.ref _) _ _) _ _ _)); (fail_if_success (with_reducible show wpAny _ _ (eval (Expr.ListComp _ _ _ _) _) _ _ _)); (fail_if_success (with_reducible show wpAny _ _ (subscriptTail _ _ (Value.ref _) (Value.int _ _)) _ _ _)); (fail_if_success (with_reducible show wpAny _ _ (setItem (Value.ref _) (Value.int _ _) _) _ _ _)); (fail_if_success (with_reducible show TupStores _ _ _ _ _ _ _ _)); (fail_if_success (with_reducible show wpAny _ _ (call (Value.builtin "len") _ _) _ _ _)); (fail_if_success (with_reducible show wpAny _ _ (call (Value.builtin "min") _ _) _ _ _)); (fail_if_success (with_reducible show wpAny _ _ (call (Value.builtin "max") _ _) _ _ _)); (fail_if_success (with_reducible show wpAny _ _ (call (Value.type "dict") _ _) _ _ _)); (fail_if_success (with_reducible show wpAny _ _ (eval (Expr.Dict _ _ _) _) _ _ _)); walk1; (try dsimp only)))
        have N22' : News _ _ _ nx22 := fun q hq => N22 q (.tail _ hq)
        have hmml : (mmT ties).length = ties.length := by simp [mmT]
        refine call_dict_pairs (KP := KeyIn PySem.Challenge.rw_zs0001_01.row.prog w0 nx22) rfl (un_law10 _) (N22 _ (.head _)).1 rfl rfl rfl (F22.notModules hbig) (fun ks b k => k.key N22') (hys22.mono fun v t r => r.at N22') (by rw [hmml]; simp only [sizeLine_eq]; omega) ?_
        intro d23 h23 tk23 o23 up23 hn23 l23 ho23 ht23
        have F23 := F22.keeps up23
        have N23 : News _ _ _ nx := News.keeps (fun q hq => N22' q (hsub22 q hq)) up23
        clear F22 N22 N22' up23 hq22 hys22 hsub22 N15 F14
        repeat' (first | (k_unfold; (try dsimp only)) | ((fail_if_success (with_reducible show wpAny _ _ (getMethod (Value.ref _) (Str.ofString "items") _) _ _ _)); (fail_if_success (with_reducible show wpAny _ _ (getMethod (Value.ref _) (Str.ofString "values") _) _ _ _)); (fail_if_success (with_reducible show wpAny _ _ (call (Value.builtin "dict.items") _) _ _ _)); (fail_if_success (with_reducible show wpAny _ _ (call (Value.builtin "dict.values") _) _ _ _)); (fail_if_success (with_reducible show wpAny _ _ (compareOp CmpOp.In (Value.ref _) (Value.ref _)) _ _ _)); (fail_if_success (with_reducible show wpAny _ _ (setItem (Value.ref _) (Value.ref _) _) _ _ _)); (fail_if_success (with_reducible show wpAny _ _ (subscriptTail _ _ (Value.ref _) (Value.ref _)) _ _ _)); (fail_if_success (with_reducible show wpAny _ _ (eval (Expr.Name (Str.ofString "k") _) (compEnvC _ _ _ _)) _ _ _)); (fail_if_success (with_reducible show wpAny _ _ (call (Value.builtin "list.append") _ _) _ _ _)); (fail_if_success (with_reducible show wpAny _ _ (subscriptTail _ (Expr.Slice _ _ _ _) (Value.ref _) (Value.ref _)) _ _ _)); (fail_if_success (with_reducible show wpAny _ _ (compareOp CmpOp.NotEq (Value.ref _) (Value.ref _)) _ _ _)); (fail_if_success (with_reducible show wpAny _ _ (compareOp CmpOp.Eq (Value.ref _) (Value.ref _)) _ _ _)); (fail_if_success (with_reducible show wpAny _ _ (compareOp CmpOp.Lt (Value.ref _) (Value.ref _)) _ _ _)); (fail_if_success (with_reducible show wpAny _ _ (call (Value.type "enumerate") _ _) _ _ _)); (fail_if_success (with_reducible show wpAny _ _ (exec (Stmt.While _ _ _ _) _) _ _ _)); (fail_if_success (with_reducible show wpAny _ _ (exec (Stmt.For _ _ _ _ _) _) _ _ _)); (fail_if_success (with_reducible show wpAny _ _ (call (Value.ref _) _ _) _ _ _)); (fail_if_success (with_reducible show wpAny _ _ (eval (Expr.ListComp _ _ _ _) _) _ _ _)); (fail_if_success (with_reducible show wpAny _ _ (subscriptTail _ _ (Value.ref _) (Value.int _ _)) _ _ _)); (fail_if_success (with_reducible show wpAny _ _ (setItem (Value.ref _) (Value.int _ _) _) _ _ _)); (fail_if_success (with_reducible show TupStores _ _ _ _ _ _ _ _)); (fail_if_success (with_reducible show wpAny _ _ (call (Value.builtin "len") _ _) _ _ _)); (fail_if_success (with_reducible show wpAny _ _ (call (Value.builtin "min") _ _) _ _ _)); (fail_if_success (with_reducible show wpAny _ _ (call (Value.builtin "max") _ _) _ _ _)); (fail_if_success (with_reducible show wpAny _ _ (call (Value.type "dict") _ _) _ _ _)); (fail_if_success (with_reducible show wpAny _ _ (eval (Expr.Dict _ _ _) _) _ _ _)); walk1; (try dsimp only)))
        have hpp := p_pairs hds htd
        refine tab_len l23 ho23 ht23 (by rw [hpp]; omega) ?_
        rw [hpp]
        intro tok24 tk24
        repeat' (first | (k_unfold; (try dsimp only)) | ((fail_if_success (with_reducible show wpAny _ _ (getMethod (Value.ref _) (Str.ofString "items") _) _ _ _)); (fail_if_success (with_reducible show wpAny _ _ (getMethod (Value.ref _) (Str.ofString "values") _) _ _ _)); (fail_if_success (with_reducible show wpAny _ _ (call (Value.builtin "dict.items") _) _ _ _)); (fail_if_success (with_reducible show wpAny _ _ (call (Value.builtin "dict.values") _) _ _ _)); (fail_if_success (with_reducible show wpAny _ _ (compareOp CmpOp.In (Value.ref _) (Value.ref _)) _ _ _)); (fail_if_success (with_reducible show wpAny _ _ (setItem (Value.ref _) (Value.ref _) _) _ _ _)); (fail_if_success (with_reducible show wpAny _ _ (subscriptTail _ _ (Value.ref _) (Value.ref _)) _ _ _)); (fail_if_success (with_reducible show wpAny _ _ (eval (Expr.Name (Str.ofString "k") _) (compEnvC _ _ _ _)) _ _ _)); (fail_if_success (with_reducible show wpAny _ _ (call (Value.builtin "list.append") _ _) _ _ _)); (fail_if_success (with_reducible show wpAny _ _ (subscriptTail _ (Expr.Slice _ _ _ _) (Value.ref _) (Value.ref _)) _ _ _)); (fail_if_success (with_reducible show wpAny _ _ (compareOp CmpOp.NotEq (Value.ref _) (Value.ref _)) _ _ _)); (fail_if_success (with_reducible show wpAny _ _ (compareOp CmpOp.Eq (Value.ref _) (Value.ref _)) _ _ _)); (fail_if_success (with_reducible show wpAny _ _ (compareOp CmpOp.Lt (Value.ref _) (Value.ref _)) _ _ _)); (fail_if_success (with_reducible show wpAny _ _ (call (Value.type "enumerate") _ _) _ _ _)); (fail_if_success (with_reducible show wpAny _ _ (exec (Stmt.While _ _ _ _) _) _ _ _)); (fail_if_success (with_reducible show wpAny _ _ (exec (Stmt.For _ _ _ _ _) _) _ _ _)); (fail_if_success (with_reducible show wpAny _ _ (call (Value.ref _) _ _) _ _ _)); (fail_if_success (with_reducible show wpAny _ _ (eval (Expr.ListComp _ _ _ _) _) _ _ _)); (fail_if_success (with_reducible show wpAny _ _ (subscriptTail _ _ (Value.ref _) (Value.int _ _)) _ _ _)); (fail_if_success (with_reducible show wpAny _ _ (setItem (Value.ref _) (Value.int _ _) _) _ _ _)); (fail_if_success (with_reducible show TupStores _ _ _ _ _ _ _ _)); (fail_if_success (with_reducible show wpAny _ _ (call (Value.builtin "len") _ _) _ _ _)); (fail_if_success (with_reducible show wpAny _ _ (call (Value.builtin "min") _ _) _ _ _)); (fail_if_success (with_reducible show wpAny _ _ (call (Value.builtin "max") _ _) _ _ _)); (fail_if_success (with_reducible show wpAny _ _ (call (Value.type "dict") _ _) _ _ _)); (fail_if_success (with_reducible show wpAny _ _ (eval (Expr.Dict _ _ _) _) _ _ _)); walk1; (try dsimp only)))
        refine len_list (news_list N23 ham) (by simp only [List.size_toArray]; omega) ?_
        simp only [List.size_toArray, hil]
        repeat' (first | (k_unfold; (try dsimp only)) | ((fail_if_success (with_reducible show wpAny _ _ (getMethod (Value.ref _) (Str.ofString "items") _) _ _ _)); (fail_if_success (with_reducible show wpAny _ _ (getMethod (Value.ref _) (Str.ofString "values") _) _ _ _)); (fail_if_success (with_reducible show wpAny _ _ (call (Value.builtin "dict.items") _) _ _ _)); (fail_if_success (with_reducible show wpAny _ _ (call (Value.builtin "dict.values") _) _ _ _)); (fail_if_success (with_reducible show wpAny _ _ (compareOp CmpOp.In (Value.ref _) (Value.ref _)) _ _ _)); (fail_if_success (with_reducible show wpAny _ _ (setItem (Value.ref _) (Value.ref _) _) _ _ _)); (fail_if_success (with_reducible show wpAny _ _ (subscriptTail _ _ (Value.ref _) (Value.ref _)) _ _ _)); (fail_if_success (with_reducible show wpAny _ _ (eval (Expr.Name (Str.ofString "k") _) (compEnvC _ _ _ _)) _ _ _)); (fail_if_success (with_reducible show wpAny _ _ (call (Value.builtin "list.append") _ _) _ _ _)); (fail_if_success (with_reducible show wpAny _ _ (subscriptTail _ (Expr.Slice _ _ _ _) (Value.ref _) (Value.ref _)) _ _ _)); (fail_if_success (with_reducible show wpAny _ _ (compareOp CmpOp.NotEq (Value.ref _) (Value.ref _)) _ _ _)); (fail_if_success (with_reducible show wpAny _ _ (compareOp CmpOp.Eq (Value.ref _) (Value.ref _)) _ _ _)); (fail_if_success (with_reducible show wpAny _ _ (compareOp CmpOp.Lt (Value.ref _) (Value.ref _)) _ _ _)); (fail_if_success (with_reducible show wpAny _ _ (call (Value.type "enumerate") _ _) _ _ _)); (fail_if_success (with_reducible show wpAny _ _ (exec (Stmt.While _ _ _ _) _) _ _ _)); (fail_if_success (with_reducible show wpAny _ _ (exec (Stmt.For _ _ _ _ _) _) _ _ _)); (fail_if_success (with_reducible show wpAny _ _ (call (Value.ref _) _ _) _ _ _)); (fail_if_success (with_reducible show wpAny _ _ (eval (Expr.ListComp _ _ _ _) _) _ _ _)); (fail_if_success (with_reducible show wpAny _ _ (subscriptTail _ _ (Value.ref _) (Value.int _ _)) _ _ _)); (fail_if_success (with_reducible show wpAny _ _ (setItem (Value.ref _) (Value.int _ _) _) _ _ _)); (fail_if_success (with_reducible show TupStores _ _ _ _ _ _ _ _)); (fail_if_success (with_reducible show wpAny _ _ (call (Value.builtin "len") _ _) _ _ _)); (fail_if_success (with_reducible show wpAny _ _ (call (Value.builtin "min") _ _) _ _ _)); (fail_if_success (with_reducible show wpAny _ _ (call (Value.builtin "max") _ _) _ _ _)); (fail_if_success (with_reducible show wpAny _ _ (call (Value.type "dict") _ _) _ _ _)); (fail_if_success (with_reducible show wpAny _ _ (eval (Expr.Dict _ _ _) _) _ _ _)); walk1; (try dsimp only)))
        · exact absurd rfl ‹((ties.length : Nat) : Int) ≠ ((ties.length : Nat) : Int)›
        have hdm : (dl, LCg.lst vds) ∈ nx := by rw [hNN]; exact .tail _ (.head _)
        have hvl := hi'.length
        have hdl := hds.1
        clear hpp hmml hn23 l23 ho23 ht23
        refine my_comp (cl := []) (by with_unfolding_all rfl) (by rfl) (by decide) ?_
        repeat' (first | (k_unfold; (try dsimp only)) | ((fail_if_success (with_reducible show wpAny _ _ (getMethod (Value.ref _) (Str.ofString "items") _) _ _ _)); (fail_if_success (with_reducible show wpAny _ _ (getMethod (Value.ref _) (Str.ofString "values") _) _ _ _)); (fail_if_success (with_reducible show wpAny _ _ (call (Value.builtin "dict.items") _) _ _ _)); (fail_if_success (with_reducible show wpAny _ _ (call (Value.builtin "dict.values") _) _ _ _)); (fail_if_success (with_reducible show wpAny _ _ (compareOp CmpOp.In (Value.ref _) (Value.ref _)) _ _ _)); (fail_if_success (with_reducible show wpAny _ _ (setItem (Value.ref _) (Value.ref _) _) _ _ _)); (fail_if_success (with_reducible show wpAny _ _ (subscriptTail _ _ (Value.ref _) (Value.ref _)) _ _ _)); (fail_if_success (with_reducible show wpAny _ _ (eval (Expr.Name (Str.ofString "k") _) (compEnvC _ _ _ _)) _ _ _)); (fail_if_success (with_reducible show wpAny _ _ (call (Value.builtin "list.append") _ _) _ _ _)); (fail_if_success (with_reducible show wpAny _ _ (subscriptTail _ (Expr.Slice _ _ _ _) (Value.ref _) (Value.ref _)) _ _ _)); (fail_if_success (with_reducible show wpAny _ _ (compareOp CmpOp.NotEq (Value.ref _) (Value.ref _)) _ _ _)); (fail_if_success (with_reducible show wpAny _ _ (compareOp CmpOp.Eq (Value.ref _) (Value.ref _)) _ _ _)); (fail_if_success (with_reducible show wpAny _ _ (compareOp CmpOp.Lt (Value.ref _) (Value.ref _)) _ _ _)); (fail_if_success (with_reducible show wpAny _ _ (call (Value.type "enumerate") _ _) _ _ _)); (fail_if_success (with_reducible show wpAny _ _ (exec (Stmt.While _ _ _ _) _) _ _ _)); (fail_if_success (with_reducible show wpAny _ _ (exec (Stmt.For _ _ _ _ _) _) _ _ _)); (fail_if_success (with_reducible show wpAny _ _ (call (Value.ref _) _ _) _ _ _)); (fail_if_success (with_reducible show wpAny _ _ (eval (Expr.ListComp _ _ _ _) _) _ _ _)); (fail_if_success (with_reducible show wpAny _ _ (subscriptTail _ _ (Value.ref _) (Value.int _ _)) _ _ _)); (fail_if_success (with_reducible show wpAny _ _ (setItem (Value.ref _) (Value.int _ _) _) _ _ _)); (fail_if_success (with_reducible show TupStores _ _ _ _ _ _ _ _)); (fail_if_success (with_reducible show wpAny _ _ (call (Value.builtin "len") _ _) _ _ _)); (fail_if_success (with_reducible show wpAny _ _ (call (Value.builtin "min") _ _) _ _ _)); (fail_if_success (with_reducible show wpAny _ _ (call (Value.builtin "max") _ _) _ _ _)); (fail_if_success (with_reducible show wpAny _ _ (call (Value.type "dict") _ _) _ _ _)); (fail_if_success (with_reducible show wpAny _ _ (eval (Expr.Dict _ _ _) _) _ _ _)); walk1; (try dsimp only)))
        refine comp_list (vs := vds) (fun _ => true) rfl (by decide) (by rfl) (by rfl) (news_lst N23 hdm) (N23 _ hdm).2.1 (by rw [hvl]; simp only [sizeLine_eq]; omega) F23 N23
          (fun j ys nx' => ∃ new, nx' = new ++ nx ∧ (∀ q ∈ new, q.2.cls = Value.type "dict") ∧ All2 (RowIn PySem.Challenge.rw_zs0001_01.row.prog w0 new) ys (List.replicate j [])) ⟨[], rfl, (fun _ h => nomatch h), .nil⟩ ?_ ?_
        · rintro j v mC ys _ h16 tk16 own C oC D wr E' hv hmv hoC ⟨new, rfl, hnc, hys⟩ hoff hown F16 N16
          refine ⟨wpAny_tests_nil (CompT.intro F16 N16), (fun q => by cases q), ?_⟩
          intro h17 tk17 _ F17 N17
          clear F16 N16
          k_fold
          walk1
          (try dsimp only)
          rename Fr _ _ _ _ => F18
          rename News _ _ _ _ => N18
          rename_i d18 _ o18 l18 c18 _ _ i18 _
          obtain ⟨N19, hoff19⟩ := comp_new (new := [(d18, o18)]) N18 (by
            intro q hq p hp
            obtain rfl := List.mem_singleton.mp hq
            exact l18 p hp) hown hoff
          have hcl : o18.cls = Value.type "dict" := let ⟨_, _, hc, _⟩ := i18; hc.1
          refine CompQ.intro F18 N19 hoff19 ⟨(d18, o18) :: new, rfl, ?_, ?_⟩
          · intro q hq
            rcases List.mem_cons.mp hq with rfl | hq
            · exact hcl
            · exact hnc q hq
          · rw [List.replicate_succ']
            exact (hys.mono fun v t r => r.mono fun q hq => .tail _ hq).append (.cons ⟨d18, o18, rfl, .head _, c18, tab_new i18⟩ .nil)
        rintro D31 h31 tk31 ys31 _ F31 N31 hq31 ⟨new31, rfl, hnc31, hys31⟩
        rw [hvl] at hys31
        repeat' (first | (k_unfold; (try dsimp only)) | ((fail_if_success (with_reducible show wpAny _ _ (getMethod (Value.ref _) (Str.ofString "items") _) _ _ _)); (fail_if_success (with_reducible show wpAny _ _ (getMethod (Value.ref _) (Str.ofString "values") _) _ _ _)); (fail_if_success (with_reducible show wpAny _ _ (call (Value.builtin "dict.items") _) _ _ _)); (fail_if_success (with_reducible show wpAny _ _ (call (Value.builtin "dict.values") _) _ _ _)); (fail_if_success (with_reducible show wpAny _ _ (compareOp CmpOp.In (Value.ref _) (Value.ref _)) _ _ _)); (fail_if_success (with_reducible show wpAny _ _ (setItem (Value.ref _) (Value.ref _) _) _ _ _)); (fail_if_success (with_reducible show wpAny _ _ (subscriptTail _ _ (Value.ref _) (Value.ref _)) _ _ _)); (fail_if_success (with_reducible show wpAny _ _ (eval (Expr.Name (Str.ofString "k") _) (compEnvC _ _ _ _)) _ _ _)); (fail_if_success (with_reducible show wpAny _ _ (call (Value.builtin "list.append") _ _) _ _ _)); (fail_if_success (with_reducible show wpAny _ _ (subscriptTail _ (Expr.Slice _ _ _ _) (Value.ref _) (Value.ref _)) _ _ _)); (fail_if_success (with_reducible show wpAny _ _ (compareOp CmpOp.NotEq (Value.ref _) (Value.ref _)) _ _ _)); (fail_if_success (with_reducible show wpAny _ _ (compareOp CmpOp.Eq (Value.ref _) (Value.ref _)) _ _ _)); (fail_if_success (with_reducible show wpAny _ _ (compareOp CmpOp.Lt (Value.ref _) (Value.ref _)) _ _ _)); (fail_if_success (with_reducible show wpAny _ _ (call (Value.type "enumerate") _ _) _ _ _)); (fail_if_success (with_reducible show wpAny _ _ (exec (Stmt.While _ _ _ _) _) _ _ _)); (fail_if_success (with_reducible show wpAny _ _ (exec (Stmt.For _ _ _ _ _) _) _ _ _)); (fail_if_success (with_reducible show wpAny _ _ (call (Value.ref _) _ _) _ _ _)); (fail_if_success (with_reducible show wpAny _ _ (eval (Expr.ListComp _ _ _ _) _) _ _ _)); (fail_if_success (with_reducible show wpAny _ _ (subscriptTail _ _ (Value.ref _) (Value.int _ _)) _ _ _)); (fail_if_success (with_reducible show wpAny _ _ (setItem (Value.ref _) (Value.int _ _) _) _ _ _)); (fail_if_success (with_reducible show TupStores _ _ _ _ _ _ _ _)); (fail_if_success (with_reducible show wpAny _ _ (call (Value.builtin "len") _ _) _ _ _)); (fail_if_success (with_reducible show wpAny _ _ (call (Value.builtin "min") _ _) _ _ _)); (fail_if_success (with_reducible show wpAny _ _ (call (Value.builtin "max") _ _) _ _ _)); (fail_if_success (with_reducible show wpAny _ _ (call (Value.type "dict") _ _) _ _ _)); (fail_if_success (with_reducible show wpAny _ _ (eval (Expr.Dict _ _ _) _) _ _ _)); walk1; (try dsimp only)))
        have hdm31 : (dl, LCg.lst vds) ∈ (D31, LCg.lst ys31) :: (new31 ++ nx) := .tail _ (List.mem_append_right _ hdm)
        refine my_comp (cl := []) (by with_unfolding_all rfl) (by rfl) (by decide) ?_
        repeat' (first | (k_unfold; (try dsimp only)) | ((fail_if_success (with_reducible show wpAny _ _ (getMethod (Value.ref _) (Str.ofString "items") _) _ _ _)); (fail_if_success (with_reducible show wpAny _ _ (getMethod (Value.ref _) (Str.ofString "values") _) _ _ _)); (fail_if_success (with_reducible show wpAny _ _ (call (Value.builtin "dict.items") _) _ _ _)); (fail_if_success (with_reducible show wpAny _ _ (call (Value.builtin "dict.values") _) _ _ _)); (fail_if_success (with_reducible show wpAny _ _ (compareOp CmpOp.In (Value.ref _) (Value.ref _)) _ _ _)); (fail_if_success (with_reducible show wpAny _ _ (setItem (Value.ref _) (Value.ref _) _) _ _ _)); (fail_if_success (with_reducible show wpAny _ _ (subscriptTail _ _ (Value.ref _) (Value.ref _)) _ _ _)); (fail_if_success (with_reducible show wpAny _ _ (eval (Expr.Name (Str.ofString "k") _) (compEnvC _ _ _ _)) _ _ _)); (fail_if_success (with_reducible show wpAny _ _ (call (Value.builtin "list.append") _ _) _ _ _)); (fail_if_success (with_reducible show wpAny _ _ (subscriptTail _ (Expr.Slice _ _ _ _) (Value.ref _) (Value.ref _)) _ _ _)); (fail_if_success (with_reducible show wpAny _ _ (compareOp CmpOp.NotEq (Value.ref _) (Value.ref _)) _ _ _)); (fail_if_success (with_reducible show wpAny _ _ (compareOp CmpOp.Eq (Value.ref _) (Value.ref _)) _ _ _)); (fail_if_success (with_reducible show wpAny _ _ (compareOp CmpOp.Lt (Value.ref _) (Value.ref _)) _ _ _)); (fail_if_success (with_reducible show wpAny _ _ (call (Value.type "enumerate") _ _) _ _ _)); (fail_if_success (with_reducible show wpAny _ _ (exec (Stmt.While _ _ _ _) _) _ _ _)); (fail_if_success (with_reducible show wpAny _ _ (exec (Stmt.For _ _ _ _ _) _) _ _ _)); (fail_if_success (with_reducible show wpAny _ _ (call (Value.ref _) _ _) _ _ _)); (fail_if_success (with_reducible show wpAny _ _ (eval (Expr.ListComp _ _ _ _) _) _ _ _)); (fail_if_success (with_reducible show wpAny _ _ (subscriptTail _ _ (Value.ref _) (Value.int _ _)) _ _ _)); (fail_if_success (with_reducible show wpAny _ _ (setItem (Value.ref _) (Value.int _ _) _) _ _ _)); (fail_if_success (with_reducible show TupStores _ _ _ _ _ _ _ _)); (fail_if_success (with_reducible show wpAny _ _ (call (Value.builtin "len") _ _) _ _ _)); (fail_if_success (with_reducible show wpAny _ _ (call (Value.builtin "min") _ _) _ _ _)); (fail_if_success (with_reducible show wpAny _ _ (call (Value.builtin "max") _ _) _ _ _)); (fail_if_success (with_reducible show wpAny _ _ (call (Value.type "dict") _ _) _ _ _)); (fail_if_success (with_reducible show wpAny _ _ (eval (Expr.Dict _ _ _) _) _ _ _)); walk1; (try dsimp only)))
        refine comp_list (vs := vds) (fun _ => true) rfl (by decide) (by rfl) (by rfl) (news_lst N31 hdm31) (N31 _ hdm31).2.1 (by rw [hvl]; simp only [sizeLine_eq]; omega) F31 N31
          (fun j ys nx' => ∃ new, nx' = new ++ ((D31, LCg.lst ys31) :: (new31 ++ nx)) ∧ (∀ q ∈ new, q.2.cls = Value.type "dict") ∧ All2 (RowIn PySem.Challenge.rw_zs0001_01.row.prog w0 new) ys (List.replicate j [])) ⟨[], rfl, (fun _ h => nomatch h), .nil⟩ ?_ ?_
        · rintro j v mC ys _ h16 tk16 own C oC D wr E' hv hmv hoC ⟨new, rfl, hnc, hys⟩ hoff hown F16 N16
          refine ⟨wpAny_tests_nil (CompT.intro F16 N16), (fun q => by cases q), ?_⟩
          intro h17 tk17 _ F17 N17
          clear F16 N16
          k_fold
          walk1
          (try dsimp only)
          rename Fr _ _ _ _ => F18
          rename News _ _ _ _ => N18
          rename_i d18 _ o18 l18 c18 _ _ i18 _
          obtain ⟨N19, hoff19⟩ := comp_new (new := [(d18, o18)]) N18 (by
            intro q hq p hp
            obtain rfl := List.mem_singleton.mp hq
            exact l18 p hp) hown hoff
          have hcl : o18.cls = Value.type "dict" := let ⟨_, _, hc, _⟩ := i18; hc.1
          refine CompQ.intro F18 N19 hoff19 ⟨(d18, o18) :: new, rfl, ?_, ?_⟩
          · intro q hq
            rcases List.mem_cons.mp hq with rfl | hq
            · exact hcl
            · exact hnc q hq
          · rw [List.replicate_succ']
            exact (hys.mono fun v t r => r.mono fun q hq => .tail _ hq).append (.cons ⟨d18, o18, rfl, .head _, c18, tab_new i18⟩ .nil)
        rintro D32 h32 tk32 ys32 _ F32 N32 hq32 ⟨new32, rfl, hnc32, hys32⟩
        rw [hvl] at hys32
        repeat' (first | (k_unfold; (try dsimp only)) | ((fail_if_success (with_reducible show wpAny _ _ (getMethod (Value.ref _) (Str.ofString "items") _) _ _ _)); (fail_if_success (with_reducible show wpAny _ _ (getMethod (Value.ref _) (Str.ofString "values") _) _ _ _)); (fail_if_success (with_reducible show wpAny _ _ (call (Value.builtin "dict.items") _) _ _ _)); (fail_if_success (with_reducible show wpAny _ _ (call (Value.builtin "dict.values") _) _ _ _)); (fail_if_success (with_reducible show wpAny _ _ (compareOp CmpOp.In (Value.ref _) (Value.ref _)) _ _ _)); (fail_if_success (with_reducible show wpAny _ _ (setItem (Value.ref _) (Value.ref _) _) _ _ _)); (fail_if_success (with_reducible show wpAny _ _ (subscriptTail _ _ (Value.ref _) (Value.ref _)) _ _ _)); (fail_if_success (with_reducible show wpAny _ _ (eval (Expr.Name (Str.ofString "k") _) (compEnvC _ _ _ _)) _ _ _)); (fail_if_success (with_reducible show wpAny _ _ (call (Value.builtin "list.append") _ _) _ _ _)); (fail_if_success (with_reducible show wpAny _ _ (subscriptTail _ (Expr.Slice _ _ _ _) (Value.ref _) (Value.ref _)) _ _ _)); (fail_if_success (with_reducible show wpAny _ _ (compareOp CmpOp.NotEq (Value.ref _) (Value.ref _)) _ _ _)); (fail_if_success (with_reducible show wpAny _ _ (compareOp CmpOp.Eq (Value.ref _) (Value.ref _)) _ _ _)); (fail_if_success (with_reducible show wpAny _ _ (compareOp CmpOp.Lt (Value.ref _) (Value.ref _)) _ _ _)); (fail_if_success (with_reducible show wpAny _ _ (call (Value.type "enumerate") _ _) _ _ _)); (fail_if_success (with_reducible show wpAny _ _ (exec (Stmt.While _ _ _ _) _) _ _ _)); (fail_if_success (with_reducible show wpAny _ _ (exec (Stmt.For _ _ _ _ _) _) _ _ _)); (fail_if_success (with_reducible show wpAny _ _ (call (Value.ref _) _ _) _ _ _)); (fail_if_success (with_reducible show wpAny _ _ (eval (Expr.ListComp _ _ _ _) _) _ _ _)); (fail_if_success (with_reducible show wpAny _ _ (subscriptTail _ _ (Value.ref _) (Value.int _ _)) _ _ _)); (fail_if_success (with_reducible show wpAny _ _ (setItem (Value.ref _) (Value.int _ _) _) _ _ _)); (fail_if_success (with_reducible show TupStores _ _ _ _ _ _ _ _)); (fail_if_success (with_reducible show wpAny _ _ (call (Value.builtin "len") _ _) _ _ _)); (fail_if_success (with_reducible show wpAny _ _ (call (Value.builtin "min") _ _) _ _ _)); (fail_if_success (with_reducible show wpAny _ _ (call (Value.builtin "max") _ _) _ _ _)); (fail_if_success (with_reducible show wpAny _ _ (call (Value.type "dict") _ _) _ _ _)); (fail_if_success (with_reducible show wpAny _ _ (eval (Expr.Dict _ _ _) _) _ _ _)); walk1; (try dsimp only)))
        rename Fr _ _ _ _ => F33
        rename News _ _ _ _ => N33
        have hne3 : D31 ≠ D32 := hq32 (D31, LCg.lst ys31) (List.mem_append_right _ (.head _))
        have N34 := N33.perm (news' := (D31, LCg.lst ys31) :: (D32, LCg.lst ys32) :: (new32 ++ (new31 ++ nx))) (by
          intro p hp
          simp only [List.mem_append, List.mem_cons] at hp ⊢
          rcases hp with hp | hp | hp | hp | hp <;> simp [hp])
        have hap0 : ∀ q ∈ new32 ++ (new31 ++ nx), q.1 ≠ D31 ∧ q.1 ≠ D32 := by
          intro q hq
          rcases List.mem_append.mp hq with hq' | hq'
          · exact ⟨news_ne N34 (.tail _ (.tail _ hq)) (.head _) (by rw [hnc32 q hq']; intro h; injection h with h; exact absurd h (by decide)), hq32 q (List.mem_append_left _ hq')⟩
          · exact ⟨hq31 q hq', hq32 q (List.mem_append_right _ (.tail _ hq'))⟩
        have hsub0 : ∀ q ∈ nx, q ∈ new32 ++ (new31 ++ nx) := fun q hq => List.mem_append_right _ (List.mem_append_right _ hq)
        have hrT0 : All2 (RowIn PySem.Challenge.rw_zs0001_01.row.prog w0 (new32 ++ (new31 ++ nx))) ys31 (nils ds) := hys31.mono fun v T r => r.mono fun q hq => List.mem_append_right _ (List.mem_append_left _ hq)
        have hrB0 : All2 (RowIn PySem.Challenge.rw_zs0001_01.row.prog w0 (new32 ++ (new31 ++ nx))) ys32 (nils ds) := hys32.mono fun v T r => r.mono fun q hq => List.mem_append_left _ hq
        have hal31 : al ≠ D31 ∧ al ≠ D32 := hap0 _ (hsub0 _ ham)
        have hnxap : ∀ q ∈ nx, q.1 ≠ D31 ∧ q.1 ≠ D32 := fun q hq => hap0 q (hsub0 q hq)
        generalize new32 ++ (new31 ++ nx) = imm0 at N34 hap0 hsub0 hrT0 hrB0
        clear N33 hys31 hys32 hnc31 hnc32 hq31 hq32 hdm31
        refine For_turns F33 ?_
        repeat' (first | (k_unfold; (try dsimp only)) | ((fail_if_success (with_reducible show wpAny _ _ (getMethod (Value.ref _) (Str.ofString "items") _) _ _ _)); (fail_if_success (with_reducible show wpAny _ _ (getMethod (Value.ref _) (Str.ofString "values") _) _ _ _)); (fail_if_success (with_reducible show wpAny _ _ (call (Value.builtin "dict.items") _) _ _ _)); (fail_if_success (with_reducible show wpAny _ _ (call (Value.builtin "dict.values") _) _ _ _)); (fail_if_success (with_reducible show wpAny _ _ (compareOp CmpOp.In (Value.ref _) (Value.ref _)) _ _ _)); (fail_if_success (with_reducible show wpAny _ _ (setItem (Value.ref _) (Value.ref _) _) _ _ _)); (fail_if_success (with_reducible show wpAny _ _ (subscriptTail _ _ (Value.ref _) (Value.ref _)) _ _ _)); (fail_if_success (with_reducible show wpAny _ _ (eval (Expr.Name (Str.ofString "k") _) (compEnvC _ _ _ _)) _ _ _)); (fail_if_success (with_reducible show wpAny _ _ (call (Value.builtin "list.append") _ _) _ _ _)); (fail_if_success (with_reducible show wpAny _ _ (subscriptTail _ (Expr.Slice _ _ _ _) (Value.ref _) (Value.ref _)) _ _ _)); (fail_if_success (with_reducible show wpAny _ _ (compareOp CmpOp.NotEq (Value.ref _) (Value.ref _)) _ _ _)); (fail_if_success (with_reducible show wpAny _ _ (compareOp CmpOp.Eq (Value.ref _) (Value.ref _)) _ _ _)); (fail_if_success (with_reducible show wpAny _ _ (compareOp CmpOp.Lt (Value.ref _) (Value.ref _)) _ _ _)); (fail_if_success (with_reducible show wpAny _ _ (call (Value.type "enumerate") _ _) _ _ _)); (fail_if_success (with_reducible show wpAny _ _ (exec (Stmt.While _ _ _ _) _) _ _ _)); (fail_if_success (with_reducible show wpAny _ _ (exec (Stmt.For _ _ _ _ _) _) _ _ _)); (fail_if_success (with_reducible show wpAny _ _ (call (Value.ref _) _ _) _ _ _)); (fail_if_success (with_reducible show wpAny _ _ (eval (Expr.ListComp _ _ _ _) _) _ _ _)); (fail_if_success (with_reducible show wpAny _ _ (subscriptTail _ _ (Value.ref _) (Value.int _ _)) _ _ _)); (fail_if_success (with_reducible show wpAny _ _ (setItem (Value.ref _) (Value.int _ _) _) _ _ _)); (fail_if_success (with_reducible show TupStores _ _ _ _ _ _ _ _)); (fail_if_success (with_reducible show wpAny _ _ (call (Value.builtin "len") _ _) _ _ _)); (fail_if_success (with_reducible show wpAny _ _ (call (Value.builtin "min") _ _) _ _ _)); (fail_if_success (with_reducible show wpAny _ _ (call (Value.builtin "max") _ _) _ _ _)); (fail_if_success (with_reducible show wpAny _ _ (call (Value.type "dict") _ _) _ _ _)); (fail_if_success (with_reducible show wpAny _ _ (eval (Expr.Dict _ _ _) _) _ _ _)); walk1; (try dsimp only)))
        refine for_pairs (R := fun j a b => ∃ (p : Int × Int) (t u : Tok), ties[j]? = some p ∧ a = Value.int p.1 t ∧ b = Value.int p.2 u) rfl rfl rfl rfl (news_list N34 (.tail _ (.tail _ (hsub0 _ ham)))) (N34 _ (.tail _ (.tail _ (hsub0 _ ham)))).2.1 F33 N34
          (fun i m nx' => ∃ refs oT oB imm u1 u2 u3, nx' = (D31, oT) :: (D32, oB) :: imm ∧ ListO oT refs ∧ ListO oB ys32 ∧ (∀ q ∈ imm, q.1 ≠ D31 ∧ q.1 ≠ D32) ∧ (∀ q ∈ nx, q ∈ imm) ∧ All2 (RowIn PySem.Challenge.rw_zs0001_01.row.prog w0 imm) refs ((ties.take i).foldl stepT (nils ds)) ∧
            All2 (RowIn PySem.Challenge.rw_zs0001_01.row.prog w0 imm) ys32 (nils ds) ∧
            m = fun y => if y = (Str.ofString "two") then u1 else if y = (Str.ofString "one") then u2 else if y = (Str.ofString "there") then some (Value.ref D31) else if y = (Str.ofString "back") then some (Value.ref D32) else if y = (Str.ofString "full") then u3 else if y = (Str.ofString "ties") then some (Value.ref al) else if y = (Str.ofString "degrees") then some (Value.ref dl) else List.lookup y [((Str.ofString "script"), Value.ref sc)].reverse)
          ?_ [D31] ?_ ?_ ?_ ?_
        · refine' ⟨ys31, _, _, imm0, none, none, _, rfl, .lst _, .lst _, hap0, hsub0, hrT0, hrB0, ?meq⟩
          case meq =>
            (funext y; first | rfl | ((try dsimp only); by_cases hh0 : y = (Str.ofString "two"); (· subst hh0; rfl); by_cases hh1 : y = (Str.ofString "one"); (· subst hh1; rfl); by_cases hh2 : y = (Str.ofString "there"); (· subst hh2; rfl); by_cases hh3 : y = (Str.ofString "back"); (· subst hh3; rfl); by_cases hh4 : y = (Str.ofString "full"); (· subst hh4; rfl); by_cases hh5 : y = (Str.ofString "ties"); (· subst hh5; rfl); by_cases hh6 : y = (Str.ofString "degrees"); (· subst hh6; rfl); simp only [hh0, hh1, hh2, hh3, hh4, hh5, hh6, if_false]))
        · intro a ha
          rw [List.mem_singleton.mp ha]
          exact ⟨Ne.symm hal31.1, _, .head _⟩
        · intro j v hv
          obtain ⟨T, a, b, rfl, ⟨o, hm, hc, n, hd⟩, r⟩ := hhit j v hv
          have hmm := N34 _ (.tail _ (.tail _ (hsub0 _ (htm _ hm))))
          exact ⟨T, a, b, rfl, hmm.2.1, fun h => (hnxap _ (htm _ hm)).1 (List.mem_singleton.mp h), ⟨o, hmm.1, hc, n, hd⟩, r⟩
        · rintro i v0 v1 m₁ _ h40 tk40 own wr hi ⟨p, t, u, hp, rfl, rfl⟩ ⟨refs, oT, oB, imm, u1, u2, u3, rfl, hoT, hoB, hap, hsub, hrT, hrB, rfl⟩ hnw hown hoff F40 N40
          dsimp only [envOf] at F40 N40
          k_fold
          have hpr := hrg p (List.mem_of_getElem? hp)
          have hRl : ((ties.take i).foldl stepT (nils ds)).length = ds.length := by rw [foldT_len]; simp [nils]
          repeat' (first | (k_unfold; (try dsimp only)) | ((fail_if_success (with_reducible show wpAny _ _ (getMethod (Value.ref _) (Str.ofString "items") _) _ _ _)); (fail_if_success (with_reducible show wpAny _ _ (getMethod (Value.ref _) (Str.ofString "values") _) _ _ _)); (fail_if_success (with_reducible show wpAny _ _ (call (Value.builtin "dict.items") _) _ _ _)); (fail_if_success (with_reducible show wpAny _ _ (call (Value.builtin "dict.values") _) _ _ _)); (fail_if_success (with_reducible show wpAny _ _ (compareOp CmpOp.In (Value.ref _) (Value.ref _)) _ _ _)); (fail_if_success (with_reducible show wpAny _ _ (setItem (Value.ref _) (Value.ref _) _) _ _ _)); (fail_if_success (with_reducible show wpAny _ _ (subscriptTail _ _ (Value.ref _) (Value.ref _)) _ _ _)); (fail_if_success (with_reducible show wpAny _ _ (eval (Expr.Name (Str.ofString "k") _) (compEnvC _ _ _ _)) _ _ _)); (fail_if_success (with_reducible show wpAny _ _ (call (Value.builtin "list.append") _ _) _ _ _)); (fail_if_success (with_reducible show wpAny _ _ (subscriptTail _ (Expr.Slice _ _ _ _) (Value.ref _) (Value.ref _)) _ _ _)); (fail_if_success (with_reducible show wpAny _ _ (compareOp CmpOp.NotEq (Value.ref _) (Value.ref _)) _ _ _)); (fail_if_success (with_reducible show wpAny _ _ (compareOp CmpOp.Eq (Value.ref _) (Value.ref _)) _ _ _)); (fail_if_success (with_reducible show wpAny _ _ (compareOp CmpOp.Lt (Value.ref _) (Value.ref _)) _ _ _)); (fail_if_success (with_reducible show wpAny _ _ (call (Value.type "enumerate") _ _) _ _ _)); (fail_if_success (with_reducible show wpAny _ _ (exec (Stmt.While _ _ _ _) _) _ _ _)); (fail_if_success (with_reducible show wpAny _ _ (exec (Stmt.For _ _ _ _ _) _) _ _ _)); (fail_if_success (with_reducible show wpAny _ _ (call (Value.ref _) _ _) _ _ _)); (fail_if_success (with_reducible show wpAny _ _ (eval (Expr.ListComp _ _ _ _) _) _ _ _)); (fail_if_success (with_reducible show wpAny _ _ (subscriptTail _ _ (Value.ref _) (Value.int _ _)) _ _ _)); (fail_if_success (with_reducible show wpAny _ _ (setItem (Value.ref _) (Value.int _ _) _) _ _ _)); (fail_if_success (with_reducible show TupStores _ _ _ _ _ _ _ _)); (fail_if_success (with_reducible show wpAny _ _ (call (Value.builtin "len") _ _) _ _ _)); (fail_if_success (with_reducible show wpAny _ _ (call (Value.builtin "min") _ _) _ _ _)); (fail_if_success (with_reducible show wpAny _ _ (call (Value.builtin "max") _ _) _ _ _)); (fail_if_success (with_reducible show wpAny _ _ (call (Value.type "dict") _ _) _ _ _)); (fail_if_success (with_reducible show wpAny _ _ (eval (Expr.Dict _ _ _) _) _ _ _)); walk1; (try dsimp only)))
          obtain ⟨vra, hvra, dra, ora, rfl, hmra, lra, tra⟩ := rows_ref hrT (k := p.1) (by rw [hRl]; omega)
          refine list_at (hoT.list N40 (List.mem_append_right _ (.head _))) hpr.1.1 (by omega) hvra ?_
          repeat' (first | (k_unfold; (try dsimp only)) | ((fail_if_success (with_reducible show wpAny _ _ (getMethod (Value.ref _) (Str.ofString "items") _) _ _ _)); (fail_if_success (with_reducible show wpAny _ _ (getMethod (Value.ref _) (Str.ofString "values") _) _ _ _)); (fail_if_success (with_reducible show wpAny _ _ (call (Value.builtin "dict.items") _) _ _ _)); (fail_if_success (with_reducible show wpAny _ _ (call (Value.builtin "dict.values") _) _ _ _)); (fail_if_success (with_reducible show wpAny _ _ (compareOp CmpOp.In (Value.ref _) (Value.ref _)) _ _ _)); (fail_if_success (with_reducible show wpAny _ _ (setItem (Value.ref _) (Value.ref _) _) _ _ _)); (fail_if_success (with_reducible show wpAny _ _ (subscriptTail _ _ (Value.ref _) (Value.ref _)) _ _ _)); (fail_if_success (with_reducible show wpAny _ _ (eval (Expr.Name (Str.ofString "k") _) (compEnvC _ _ _ _)) _ _ _)); (fail_if_success (with_reducible show wpAny _ _ (call (Value.builtin "list.append") _ _) _ _ _)); (fail_if_success (with_reducible show wpAny _ _ (subscriptTail _ (Expr.Slice _ _ _ _) (Value.ref _) (Value.ref _)) _ _ _)); (fail_if_success (with_reducible show wpAny _ _ (compareOp CmpOp.NotEq (Value.ref _) (Value.ref _)) _ _ _)); (fail_if_success (with_reducible show wpAny _ _ (compareOp CmpOp.Eq (Value.ref _) (Value.ref _)) _ _ _)); (fail_if_success (with_reducible show wpAny _ _ (compareOp CmpOp.Lt (Value.ref _) (Value.ref _)) _ _ _)); (fail_if_success (with_reducible show wpAny _ _ (call (Value.type "enumerate") _ _) _ _ _)); (fail_if_success (with_reducible show wpAny _ _ (exec (Stmt.While _ _ _ _) _) _ _ _)); (fail_if_success (with_reducible show wpAny _ _ (exec (Stmt.For _ _ _ _ _) _) _ _ _)); (fail_if_success (with_reducible show wpAny _ _ (call (Value.ref _) _ _) _ _ _)); (fail_if_success (with_reducible show wpAny _ _ (eval (Expr.ListComp _ _ _ _) _) _ _ _)); (fail_if_success (with_reducible show wpAny _ _ (subscriptTail _ _ (Value.ref _) (Value.int _ _)) _ _ _)); (fail_if_success (with_reducible show wpAny _ _ (setItem (Value.ref _) (Value.int _ _) _) _ _ _)); (fail_if_success (with_reducible show TupStores _ _ _ _ _ _ _ _)); (fail_if_success (with_reducible show wpAny _ _ (call (Value.builtin "len") _ _) _ _ _)); (fail_if_success (with_reducible show wpAny _ _ (call (Value.builtin "min") _ _) _ _ _)); (fail_if_success (with_reducible show wpAny _ _ (call (Value.builtin "max") _ _) _ _ _)); (fail_if_success (with_reducible show wpAny _ _ (call (Value.type "dict") _ _) _ _ _)); (fail_if_success (with_reducible show wpAny _ _ (eval (Expr.Dict _ _ _) _) _ _ _)); walk1; (try dsimp only)))
          have lta : ∀ q ∈ own ++ (D31, oT) :: (D32, oB) :: imm, q.1 ≠ _ := fun q hq => Nat.ne_of_lt (Heap.lt_size (N40 q hq).1)
          refine Dict_tup_made rfl F40 N40 hbig rfl rfl (by simp) (by decide) ?_
          intro oDa Faa Naa lDa iDa
          repeat' (first | (k_unfold; (try dsimp only)) | ((fail_if_success (with_reducible show wpAny _ _ (getMethod (Value.ref _) (Str.ofString "items") _) _ _ _)); (fail_if_success (with_reducible show wpAny _ _ (getMethod (Value.ref _) (Str.ofString "values") _) _ _ _)); (fail_if_success (with_reducible show wpAny _ _ (call (Value.builtin "dict.items") _) _ _ _)); (fail_if_success (with_reducible show wpAny _ _ (call (Value.builtin "dict.values") _) _ _ _)); (fail_if_success (with_reducible show wpAny _ _ (compareOp CmpOp.In (Value.ref _) (Value.ref _)) _ _ _)); (fail_if_success (with_reducible show wpAny _ _ (setItem (Value.ref _) (Value.ref _) _) _ _ _)); (fail_if_success (with_reducible show wpAny _ _ (subscriptTail _ _ (Value.ref _) (Value.ref _)) _ _ _)); (fail_if_success (with_reducible show wpAny _ _ (eval (Expr.Name (Str.ofString "k") _) (compEnvC _ _ _ _)) _ _ _)); (fail_if_success (with_reducible show wpAny _ _ (call (Value.builtin "list.append") _ _) _ _ _)); (fail_if_success (with_reducible show wpAny _ _ (subscriptTail _ (Expr.Slice _ _ _ _) (Value.ref _) (Value.ref _)) _ _ _)); (fail_if_success (with_reducible show wpAny _ _ (compareOp CmpOp.NotEq (Value.ref _) (Value.ref _)) _ _ _)); (fail_if_success (with_reducible show wpAny _ _ (compareOp CmpOp.Eq (Value.ref _) (Value.ref _)) _ _ _)); (fail_if_success (with_reducible show wpAny _ _ (compareOp CmpOp.Lt (Value.ref _) (Value.ref _)) _ _ _)); (fail_if_success (with_reducible show wpAny _ _ (call (Value.type "enumerate") _ _) _ _ _)); (fail_if_success (with_reducible show wpAny _ _ (exec (Stmt.While _ _ _ _) _) _ _ _)); (fail_if_success (with_reducible show wpAny _ _ (exec (Stmt.For _ _ _ _ _) _) _ _ _)); (fail_if_success (with_reducible show wpAny _ _ (call (Value.ref _) _ _) _ _ _)); (fail_if_success (with_reducible show wpAny _ _ (eval (Expr.ListComp _ _ _ _) _) _ _ _)); (fail_if_success (with_reducible show wpAny _ _ (subscriptTail _ _ (Value.ref _) (Value.int _ _)) _ _ _)); (fail_if_success (with_reducible show wpAny _ _ (setItem (Value.ref _) (Value.int _ _) _) _ _ _)); (fail_if_success (with_reducible show TupStores _ _ _ _ _ _ _ _)); (fail_if_success (with_reducible show wpAny _ _ (call (Value.builtin "len") _ _) _ _ _)); (fail_if_success (with_reducible show wpAny _ _ (call (Value.builtin "min") _ _) _ _ _)); (fail_if_success (with_reducible show wpAny _ _ (call (Value.builtin "max") _ _) _ _ _)); (fail_if_success (with_reducible show wpAny _ _ (call (Value.type "dict") _ _) _ _ _)); (fail_if_success (with_reducible show wpAny _ _ (eval (Expr.Dict _ _ _) _) _ _ _)); walk1; (try dsimp only)))
          rename Fr _ _ _ _ => Fab
          rename News _ _ _ _ => Nab
          rename_i Ka _ hKa
          dsimp only at Nab lDa
          obtain ⟨oka, hoka, Nab⟩ := split_key (ks := kf p.2) (prog := PySem.Challenge.rw_zs0001_01.row.prog) (w := w0) Nab ⟨rfl, _, _, rfl, key_items⟩
          refine store_one (KP := KeyIn PySem.Challenge.rw_zs0001_01.row.prog w0 ((Ka, oka) :: imm)) (k := kf p.2) (own := [(Ka, oka)]) (un_law0 _) Fab Nab (fun q hq => by rw [List.mem_singleton.mp hq]; exact Nat.ne_of_gt hKa.1) lta (tab_new iDa)
            (fun ks b k => k.key (fun q hq => Nab q (by
              rcases List.mem_cons.mp hq with rfl | hq
              · exact .head _
              · exact .tail _ (.tail _ (List.mem_append_right _ (.tail _ (.tail _ hq))))))) ⟨oka, .head _, hoka⟩ ?_
          intro hac tkac oda Fac Nac tda
          clear Fab Nab
          repeat' (first | (k_unfold; (try dsimp only)) | ((fail_if_success (with_reducible show wpAny _ _ (getMethod (Value.ref _) (Str.ofString "items") _) _ _ _)); (fail_if_success (with_reducible show wpAny _ _ (getMethod (Value.ref _) (Str.ofString "values") _) _ _ _)); (fail_if_success (with_reducible show wpAny _ _ (call (Value.builtin "dict.items") _) _ _ _)); (fail_if_success (with_reducible show wpAny _ _ (call (Value.builtin "dict.values") _) _ _ _)); (fail_if_success (with_reducible show wpAny _ _ (compareOp CmpOp.In (Value.ref _) (Value.ref _)) _ _ _)); (fail_if_success (with_reducible show wpAny _ _ (setItem (Value.ref _) (Value.ref _) _) _ _ _)); (fail_if_success (with_reducible show wpAny _ _ (subscriptTail _ _ (Value.ref _) (Value.ref _)) _ _ _)); (fail_if_success (with_reducible show wpAny _ _ (eval (Expr.Name (Str.ofString "k") _) (compEnvC _ _ _ _)) _ _ _)); (fail_if_success (with_reducible show wpAny _ _ (call (Value.builtin "list.append") _ _) _ _ _)); (fail_if_success (with_reducible show wpAny _ _ (subscriptTail _ (Expr.Slice _ _ _ _) (Value.ref _) (Value.ref _)) _ _ _)); (fail_if_success (with_reducible show wpAny _ _ (compareOp CmpOp.NotEq (Value.ref _) (Value.ref _)) _ _ _)); (fail_if_success (with_reducible show wpAny _ _ (compareOp CmpOp.Eq (Value.ref _) (Value.ref _)) _ _ _)); (fail_if_success (with_reducible show wpAny _ _ (compareOp CmpOp.Lt (Value.ref _) (Value.ref _)) _ _ _)); (fail_if_success (with_reducible show wpAny _ _ (call (Value.type "enumerate") _ _) _ _ _)); (fail_if_success (with_reducible show wpAny _ _ (exec (Stmt.While _ _ _ _) _) _ _ _)); (fail_if_success (with_reducible show wpAny _ _ (exec (Stmt.For _ _ _ _ _) _) _ _ _)); (fail_if_success (with_reducible show wpAny _ _ (call (Value.ref _) _ _) _ _ _)); (fail_if_success (with_reducible show wpAny _ _ (eval (Expr.ListComp _ _ _ _) _) _ _ _)); (fail_if_success (with_reducible show wpAny _ _ (subscriptTail _ _ (Value.ref _) (Value.int _ _)) _ _ _)); (fail_if_success (with_reducible show wpAny _ _ (setItem (Value.ref _) (Value.int _ _) _) _ _ _)); (fail_if_success (with_reducible show TupStores _ _ _ _ _ _ _ _)); (fail_if_success (with_reducible show wpAny _ _ (call (Value.builtin "len") _ _) _ _ _)); (fail_if_success (with_reducible show wpAny _ _ (call (Value.builtin "min") _ _) _ _ _)); (fail_if_success (with_reducible show wpAny _ _ (call (Value.builtin "max") _ _) _ _ _)); (fail_if_success (with_reducible show wpAny _ _ (call (Value.type "dict") _ _) _ _ _)); (fail_if_success (with_reducible show wpAny _ _ (eval (Expr.Dict _ _ _) _) _ _ _)); walk1; (try dsimp only)))
          have hka : News _ _ _ ((Ka, oka) :: imm) := fun q hq => Nac q (by
            rcases List.mem_cons.mp hq with rfl | hq
            · exact .head _
            · exact .tail _ (.tail _ (List.mem_append_right _ (.tail _ (.tail _ hq)))))
          refine add_spec (KP := KeyIn PySem.Challenge.rw_zs0001_01.row.prog w0 ((Ka, oka) :: imm)) (X0.keeps Fac.keep) (T0.keeps Fac.keep) (by decide) (by decide) (fun ks b k => k.key hka) (Nac (dra, ora) (.tail _ (.tail _ (List.mem_append_right _ (.tail _ (.tail _ hmra)))))).1 (Nac (_, oda) (.tail _ (.head _))).1 lra lDa (tra.mono fun _ _ k => k.mono fun q hq => .tail _ hq) tda (by
            have hl1 := foldT_le ds (ties.take i) p.1
            have hl2 : (ties.take i).length ≤ ties.length := by rw [List.length_take]; omega
            have hl3 : (ties.reverse.take i).length ≤ ties.length := by rw [List.length_take, List.length_reverse]; omega
            simp only [List.length_cons, List.length_nil, sizeLine_eq]
            omega) ?_
          intro had tkad dna ona upa fra lna hoa tna
          have Fad := Fac.keeps upa
          have hna := fresh_of Fac fra
          have Nad : News _ _ _ ([(dna, ona), (Ka, oka)] ++ (own ++ (D31, oT) :: (D32, oB) :: imm)) := news_cons hoa hna.1 hna.2 (News.keeps (fun q hq => Nac q (by
            rcases List.mem_cons.mp hq with rfl | hq
            · exact .head _
            · exact .tail _ (.tail _ hq))) upa)
          obtain ⟨Nae, hnwa, hapa⟩ := loop_new Nad (by
            intro q hq p hp
            simp only [List.mem_cons, List.not_mem_nil, or_false] at hq
            rcases hq with rfl | rfl
            · intro e
              have e2 := (Nac p (.tail _ (.tail _ hp))).1
              rw [e] at e2
              rw [fra] at e2
              cases e2
            · exact Nat.ne_of_lt (allLt_mem hKa.2 p hp)) hown hnw hap
          clear Fac Nac Nad hka
          repeat' (first | (k_unfold; (try dsimp only)) | ((fail_if_success (with_reducible show wpAny _ _ (getMethod (Value.ref _) (Str.ofString "items") _) _ _ _)); (fail_if_success (with_reducible show wpAny _ _ (getMethod (Value.ref _) (Str.ofString "values") _) _ _ _)); (fail_if_success (with_reducible show wpAny _ _ (call (Value.builtin "dict.items") _) _ _ _)); (fail_if_success (with_reducible show wpAny _ _ (call (Value.builtin "dict.values") _) _ _ _)); (fail_if_success (with_reducible show wpAny _ _ (compareOp CmpOp.In (Value.ref _) (Value.ref _)) _ _ _)); (fail_if_success (with_reducible show wpAny _ _ (setItem (Value.ref _) (Value.ref _) _) _ _ _)); (fail_if_success (with_reducible show wpAny _ _ (subscriptTail _ _ (Value.ref _) (Value.ref _)) _ _ _)); (fail_if_success (with_reducible show wpAny _ _ (eval (Expr.Name (Str.ofString "k") _) (compEnvC _ _ _ _)) _ _ _)); (fail_if_success (with_reducible show wpAny _ _ (call (Value.builtin "list.append") _ _) _ _ _)); (fail_if_success (with_reducible show wpAny _ _ (subscriptTail _ (Expr.Slice _ _ _ _) (Value.ref _) (Value.ref _)) _ _ _)); (fail_if_success (with_reducible show wpAny _ _ (compareOp CmpOp.NotEq (Value.ref _) (Value.ref _)) _ _ _)); (fail_if_success (with_reducible show wpAny _ _ (compareOp CmpOp.Eq (Value.ref _) (Value.ref _)) _ _ _)); (fail_if_success (with_reducible show wpAny _ _ (compareOp CmpOp.Lt (Value.ref _) (Value.ref _)) _ _ _)); (fail_if_success (with_reducible show wpAny _ _ (call (Value.type "enumerate") _ _) _ _ _)); (fail_if_success (with_reducible show wpAny _ _ (exec (Stmt.While _ _ _ _) _) _ _ _)); (fail_if_success (with_reducible show wpAny _ _ (exec (Stmt.For _ _ _ _ _) _) _ _ _)); (fail_if_success (with_reducible show wpAny _ _ (call (Value.ref _) _ _) _ _ _)); (fail_if_success (with_reducible show wpAny _ _ (eval (Expr.ListComp _ _ _ _) _) _ _ _)); (fail_if_success (with_reducible show wpAny _ _ (subscriptTail _ _ (Value.ref _) (Value.int _ _)) _ _ _)); (fail_if_success (with_reducible show wpAny _ _ (setItem (Value.ref _) (Value.int _ _) _) _ _ _)); (fail_if_success (with_reducible show TupStores _ _ _ _ _ _ _ _)); (fail_if_success (with_reducible show wpAny _ _ (call (Value.builtin "len") _ _) _ _ _)); (fail_if_success (with_reducible show wpAny _ _ (call (Value.builtin "min") _ _) _ _ _)); (fail_if_success (with_reducible show wpAny _ _ (call (Value.builtin "max") _ _) _ _ _)); (fail_if_success (with_reducible show wpAny _ _ (call (Value.type "dict") _ _) _ _ _)); (fail_if_success (with_reducible show wpAny _ _ (eval (Expr.Dict _ _ _) _) _ _ _)); walk1; (try dsimp only)))
          have hrXa : All2 (RowIn PySem.Challenge.rw_zs0001_01.row.prog w0 ([(dna, ona), (Ka, oka)] ++ imm)) refs ((ties.take i).foldl stepT (nils ds)) := hrT.mono fun v T r => r.mono fun q hq => List.mem_append_right _ hq
          obtain ⟨vrb, hvrb, drb, orb, rfl, hmrb, lrb, trb⟩ := rows_ref hrXa (k := p.2) (by rw [hRl]; omega)
          refine list_at (hoT.list Nae (List.mem_append_right _ (.head _))) hpr.2.1 (by omega) hvrb ?_
          repeat' (first | (k_unfold; (try dsimp only)) | ((fail_if_success (with_reducible show wpAny _ _ (getMethod (Value.ref _) (Str.ofString "items") _) _ _ _)); (fail_if_success (with_reducible show wpAny _ _ (getMethod (Value.ref _) (Str.ofString "values") _) _ _ _)); (fail_if_success (with_reducible show wpAny _ _ (call (Value.builtin "dict.items") _) _ _ _)); (fail_if_success (with_reducible show wpAny _ _ (call (Value.builtin "dict.values") _) _ _ _)); (fail_if_success (with_reducible show wpAny _ _ (compareOp CmpOp.In (Value.ref _) (Value.ref _)) _ _ _)); (fail_if_success (with_reducible show wpAny _ _ (setItem (Value.ref _) (Value.ref _) _) _ _ _)); (fail_if_success (with_reducible show wpAny _ _ (subscriptTail _ _ (Value.ref _) (Value.ref _)) _ _ _)); (fail_if_success (with_reducible show wpAny _ _ (eval (Expr.Name (Str.ofString "k") _) (compEnvC _ _ _ _)) _ _ _)); (fail_if_success (with_reducible show wpAny _ _ (call (Value.builtin "list.append") _ _) _ _ _)); (fail_if_success (with_reducible show wpAny _ _ (subscriptTail _ (Expr.Slice _ _ _ _) (Value.ref _) (Value.ref _)) _ _ _)); (fail_if_success (with_reducible show wpAny _ _ (compareOp CmpOp.NotEq (Value.ref _) (Value.ref _)) _ _ _)); (fail_if_success (with_reducible show wpAny _ _ (compareOp CmpOp.Eq (Value.ref _) (Value.ref _)) _ _ _)); (fail_if_success (with_reducible show wpAny _ _ (compareOp CmpOp.Lt (Value.ref _) (Value.ref _)) _ _ _)); (fail_if_success (with_reducible show wpAny _ _ (call (Value.type "enumerate") _ _) _ _ _)); (fail_if_success (with_reducible show wpAny _ _ (exec (Stmt.While _ _ _ _) _) _ _ _)); (fail_if_success (with_reducible show wpAny _ _ (exec (Stmt.For _ _ _ _ _) _) _ _ _)); (fail_if_success (with_reducible show wpAny _ _ (call (Value.ref _) _ _) _ _ _)); (fail_if_success (with_reducible show wpAny _ _ (eval (Expr.ListComp _ _ _ _) _) _ _ _)); (fail_if_success (with_reducible show wpAny _ _ (subscriptTail _ _ (Value.ref _) (Value.int _ _)) _ _ _)); (fail_if_success (with_reducible show wpAny _ _ (setItem (Value.ref _) (Value.int _ _) _) _ _ _)); (fail_if_success (with_reducible show TupStores _ _ _ _ _ _ _ _)); (fail_if_success (with_reducible show wpAny _ _ (call (Value.builtin "len") _ _) _ _ _)); (fail_if_success (with_reducible show wpAny _ _ (call (Value.builtin "min") _ _) _ _ _)); (fail_if_success (with_reducible show wpAny _ _ (call (Value.builtin "max") _ _) _ _ _)); (fail_if_success (with_reducible show wpAny _ _ (call (Value.type "dict") _ _) _ _ _)); (fail_if_success (with_reducible show wpAny _ _ (eval (Expr.Dict _ _ _) _) _ _ _)); walk1; (try dsimp only)))
          have ltb : ∀ q ∈ own ++ (D31, oT) :: (D32, oB) :: ([(dna, ona), (Ka, oka)] ++ imm), q.1 ≠ _ := fun q hq => Nat.ne_of_lt (Heap.lt_size (Nae q hq).1)
          refine Dict_tup_made rfl Fad Nae hbig rfl rfl (by simp) (by decide) ?_
          intro oDb Fba Nba lDb iDb
          repeat' (first | (k_unfold; (try dsimp only)) | ((fail_if_success (with_reducible show wpAny _ _ (getMethod (Value.ref _) (Str.ofString "items") _) _ _ _)); (fail_if_success (with_reducible show wpAny _ _ (getMethod (Value.ref _) (Str.ofString "values") _) _ _ _)); (fail_if_success (with_reducible show wpAny _ _ (call (Value.builtin "dict.items") _) _ _ _)); (fail_if_success (with_reducible show wpAny _ _ (call (Value.builtin "dict.values") _) _ _ _)); (fail_if_success (with_reducible show wpAny _ _ (compareOp CmpOp.In (Value.ref _) (Value.ref _)) _ _ _)); (fail_if_success (with_reducible show wpAny _ _ (setItem (Value.ref _) (Value.ref _) _) _ _ _)); (fail_if_success (with_reducible show wpAny _ _ (subscriptTail _ _ (Value.ref _) (Value.ref _)) _ _ _)); (fail_if_success (with_reducible show wpAny _ _ (eval (Expr.Name (Str.ofString "k") _) (compEnvC _ _ _ _)) _ _ _)); (fail_if_success (with_reducible show wpAny _ _ (call (Value.builtin "list.append") _ _) _ _ _)); (fail_if_success (with_reducible show wpAny _ _ (subscriptTail _ (Expr.Slice _ _ _ _) (Value.ref _) (Value.ref _)) _ _ _)); (fail_if_success (with_reducible show wpAny _ _ (compareOp CmpOp.NotEq (Value.ref _) (Value.ref _)) _ _ _)); (fail_if_success (with_reducible show wpAny _ _ (compareOp CmpOp.Eq (Value.ref _) (Value.ref _)) _ _ _)); (fail_if_success (with_reducible show wpAny _ _ (compareOp CmpOp.Lt (Value.ref _) (Value.ref _)) _ _ _)); (fail_if_success (with_reducible show wpAny _ _ (call (Value.type "enumerate") _ _) _ _ _)); (fail_if_success (with_reducible show wpAny _ _ (exec (Stmt.While _ _ _ _) _) _ _ _)); (fail_if_success (with_reducible show wpAny _ _ (exec (Stmt.For _ _ _ _ _) _) _ _ _)); (fail_if_success (with_reducible show wpAny _ _ (call (Value.ref _) _ _) _ _ _)); (fail_if_success (with_reducible show wpAny _ _ (eval (Expr.ListComp _ _ _ _) _) _ _ _)); (fail_if_success (with_reducible show wpAny _ _ (subscriptTail _ _ (Value.ref _) (Value.int _ _)) _ _ _)); (fail_if_success (with_reducible show wpAny _ _ (setItem (Value.ref _) (Value.int _ _) _) _ _ _)); (fail_if_success (with_reducible show TupStores _ _ _ _ _ _ _ _)); (fail_if_success (with_reducible show wpAny _ _ (call (Value.builtin "len") _ _) _ _ _)); (fail_if_success (with_reducible show wpAny _ _ (call (Value.builtin "min") _ _) _ _ _)); (fail_if_success (with_reducible show wpAny _ _ (call (Value.builtin "max") _ _) _ _ _)); (fail_if_success (with_reducible show wpAny _ _ (call (Value.type "dict") _ _) _ _ _)); (fail_if_success (with_reducible show wpAny _ _ (eval (Expr.Dict _ _ _) _) _ _ _)); walk1; (try dsimp only)))
          rename Fr _ _ _ _ => Fbb
          rename News _ _ _ _ => Nbb
          rename_i Kb _ hKb
          dsimp only at Nbb lDb
          obtain ⟨okb, hokb, Nbb⟩ := split_key (ks := kf p.1) (prog := PySem.Challenge.rw_zs0001_01.row.prog) (w := w0) Nbb ⟨rfl, _, _, rfl, key_items⟩
          refine store_one (KP := KeyIn PySem.Challenge.rw_zs0001_01.row.prog w0 ((Kb, okb) :: ([(dna, ona), (Ka, oka)] ++ imm))) (k := kf p.1) (own := [(Kb, okb)]) (un_law0 _) Fbb Nbb (fun q hq => by rw [List.mem_singleton.mp hq]; exact Nat.ne_of_gt hKb.1) ltb (tab_new iDb)
            (fun ks b k => k.key (fun q hq => Nbb q (by
              rcases List.mem_cons.mp hq with rfl | hq
              · exact .head _
              · exact .tail _ (.tail _ (List.mem_append_right _ (.tail _ (.tail _ hq))))))) ⟨okb, .head _, hokb⟩ ?_
          intro hbc tkbc odb Fbc Nbc tdb
          clear Fbb Nbb
          repeat' (first | (k_unfold; (try dsimp only)) | ((fail_if_success (with_reducible show wpAny _ _ (getMethod (Value.ref _) (Str.ofString "items") _) _ _ _)); (fail_if_success (with_reducible show wpAny _ _ (getMethod (Value.ref _) (Str.ofString "values") _) _ _ _)); (fail_if_success (with_reducible show wpAny _ _ (call (Value.builtin "dict.items") _) _ _ _)); (fail_if_success (with_reducible show wpAny _ _ (call (Value.builtin "dict.values") _) _ _ _)); (fail_if_success (with_reducible show wpAny _ _ (compareOp CmpOp.In (Value.ref _) (Value.ref _)) _ _ _)); (fail_if_success (with_reducible show wpAny _ _ (setItem (Value.ref _) (Value.ref _) _) _ _ _)); (fail_if_success (with_reducible show wpAny _ _ (subscriptTail _ _ (Value.ref _) (Value.ref _)) _ _ _)); (fail_if_success (with_reducible show wpAny _ _ (eval (Expr.Name (Str.ofString "k") _) (compEnvC _ _ _ _)) _ _ _)); (fail_if_success (with_reducible show wpAny _ _ (call (Value.builtin "list.append") _ _) _ _ _)); (fail_if_success (with_reducible show wpAny _ _ (subscriptTail _ (Expr.Slice _ _ _ _) (Value.ref _) (Value.ref _)) _ _ _)); (fail_if_success (with_reducible show wpAny _ _ (compareOp CmpOp.NotEq (Value.ref _) (Value.ref _)) _ _ _)); (fail_if_success (with_reducible show wpAny _ _ (compareOp CmpOp.Eq (Value.ref _) (Value.ref _)) _ _ _)); (fail_if_success (with_reducible show wpAny _ _ (compareOp CmpOp.Lt (Value.ref _) (Value.ref _)) _ _ _)); (fail_if_success (with_reducible show wpAny _ _ (call (Value.type "enumerate") _ _) _ _ _)); (fail_if_success (with_reducible show wpAny _ _ (exec (Stmt.While _ _ _ _) _) _ _ _)); (fail_if_success (with_reducible show wpAny _ _ (exec (Stmt.For _ _ _ _ _) _) _ _ _)); (fail_if_success (with_reducible show wpAny _ _ (call (Value.ref _) _ _) _ _ _)); (fail_if_success (with_reducible show wpAny _ _ (eval (Expr.ListComp _ _ _ _) _) _ _ _)); (fail_if_success (with_reducible show wpAny _ _ (subscriptTail _ _ (Value.ref _) (Value.int _ _)) _ _ _)); (fail_if_success (with_reducible show wpAny _ _ (setItem (Value.ref _) (Value.int _ _) _) _ _ _)); (fail_if_success (with_reducible show TupStores _ _ _ _ _ _ _ _)); (fail_if_success (with_reducible show wpAny _ _ (call (Value.builtin "len") _ _) _ _ _)); (fail_if_success (with_reducible show wpAny _ _ (call (Value.builtin "min") _ _) _ _ _)); (fail_if_success (with_reducible show wpAny _ _ (call (Value.builtin "max") _ _) _ _ _)); (fail_if_success (with_reducible show wpAny _ _ (call (Value.type "dict") _ _) _ _ _)); (fail_if_success (with_reducible show wpAny _ _ (eval (Expr.Dict _ _ _) _) _ _ _)); walk1; (try dsimp only)))
          have hkb : News _ _ _ ((Kb, okb) :: ([(dna, ona), (Ka, oka)] ++ imm)) := fun q hq => Nbc q (by
            rcases List.mem_cons.mp hq with rfl | hq
            · exact .head _
            · exact .tail _ (.tail _ (List.mem_append_right _ (.tail _ (.tail _ hq)))))
          refine add_spec (KP := KeyIn PySem.Challenge.rw_zs0001_01.row.prog w0 ((Kb, okb) :: ([(dna, ona), (Ka, oka)] ++ imm))) (X0.keeps Fbc.keep) (T0.keeps Fbc.keep) (by decide) (by decide) (fun ks b k => k.key hkb) (Nbc (drb, orb) (.tail _ (.tail _ (List.mem_append_right _ (.tail _ (.tail _ hmrb)))))).1 (Nbc (_, odb) (.tail _ (.head _))).1 lrb lDb (trb.mono fun _ _ k => k.mono fun q hq => .tail _ hq) tdb (by
            have hl1 := foldT_le ds (ties.take i) p.2
            have hl2 : (ties.take i).length ≤ ties.length := by rw [List.length_take]; omega
            have hl3 : (ties.reverse.take i).length ≤ ties.length := by rw [List.length_take, List.length_reverse]; omega
            simp only [List.length_cons, List.length_nil, sizeLine_eq]
            omega) ?_
          intro hbd tkbd dnb onb upb frb lnb hob tnb
          have Fbd := Fbc.keeps upb
          have hnb := fresh_of Fbc frb
          have Nbd : News _ _ _ ([(dnb, onb), (Kb, okb)] ++ (own ++ (D31, oT) :: (D32, oB) :: ([(dna, ona), (Ka, oka)] ++ imm))) := news_cons hob hnb.1 hnb.2 (News.keeps (fun q hq => Nbc q (by
            rcases List.mem_cons.mp hq with rfl | hq
            · exact .head _
            · exact .tail _ (.tail _ hq))) upb)
          obtain ⟨Nbe, hnwb, hapb⟩ := loop_new Nbd (by
            intro q hq p hp
            simp only [List.mem_cons, List.not_mem_nil, or_false] at hq
            rcases hq with rfl | rfl
            · intro e
              have e2 := (Nbc p (.tail _ (.tail _ hp))).1
              rw [e] at e2
              rw [frb] at e2
              cases e2
            · exact Nat.ne_of_lt (allLt_mem hKb.2 p hp)) hown hnwa hapa
          clear Fbc Nbc Nbd hkb
          repeat' (first | (k_unfold; (try dsimp only)) | ((fail_if_success (with_reducible show wpAny _ _ (getMethod (Value.ref _) (Str.ofString "items") _) _ _ _)); (fail_if_success (with_reducible show wpAny _ _ (getMethod (Value.ref _) (Str.ofString "values") _) _ _ _)); (fail_if_success (with_reducible show wpAny _ _ (call (Value.builtin "dict.items") _) _ _ _)); (fail_if_success (with_reducible show wpAny _ _ (call (Value.builtin "dict.values") _) _ _ _)); (fail_if_success (with_reducible show wpAny _ _ (compareOp CmpOp.In (Value.ref _) (Value.ref _)) _ _ _)); (fail_if_success (with_reducible show wpAny _ _ (setItem (Value.ref _) (Value.ref _) _) _ _ _)); (fail_if_success (with_reducible show wpAny _ _ (subscriptTail _ _ (Value.ref _) (Value.ref _)) _ _ _)); (fail_if_success (with_reducible show wpAny _ _ (eval (Expr.Name (Str.ofString "k") _) (compEnvC _ _ _ _)) _ _ _)); (fail_if_success (with_reducible show wpAny _ _ (call (Value.builtin "list.append") _ _) _ _ _)); (fail_if_success (with_reducible show wpAny _ _ (subscriptTail _ (Expr.Slice _ _ _ _) (Value.ref _) (Value.ref _)) _ _ _)); (fail_if_success (with_reducible show wpAny _ _ (compareOp CmpOp.NotEq (Value.ref _) (Value.ref _)) _ _ _)); (fail_if_success (with_reducible show wpAny _ _ (compareOp CmpOp.Eq (Value.ref _) (Value.ref _)) _ _ _)); (fail_if_success (with_reducible show wpAny _ _ (compareOp CmpOp.Lt (Value.ref _) (Value.ref _)) _ _ _)); (fail_if_success (with_reducible show wpAny _ _ (call (Value.type "enumerate") _ _) _ _ _)); (fail_if_success (with_reducible show wpAny _ _ (exec (Stmt.While _ _ _ _) _) _ _ _)); (fail_if_success (with_reducible show wpAny _ _ (exec (Stmt.For _ _ _ _ _) _) _ _ _)); (fail_if_success (with_reducible show wpAny _ _ (call (Value.ref _) _ _) _ _ _)); (fail_if_success (with_reducible show wpAny _ _ (eval (Expr.ListComp _ _ _ _) _) _ _ _)); (fail_if_success (with_reducible show wpAny _ _ (subscriptTail _ _ (Value.ref _) (Value.int _ _)) _ _ _)); (fail_if_success (with_reducible show wpAny _ _ (setItem (Value.ref _) (Value.int _ _) _) _ _ _)); (fail_if_success (with_reducible show TupStores _ _ _ _ _ _ _ _)); (fail_if_success (with_reducible show wpAny _ _ (call (Value.builtin "len") _ _) _ _ _)); (fail_if_success (with_reducible show wpAny _ _ (call (Value.builtin "min") _ _) _ _ _)); (fail_if_success (with_reducible show wpAny _ _ (call (Value.builtin "max") _ _) _ _ _)); (fail_if_success (with_reducible show wpAny _ _ (call (Value.type "dict") _ _) _ _ _)); (fail_if_success (with_reducible show wpAny _ _ (eval (Expr.Dict _ _ _) _) _ _ _)); walk1; (try dsimp only)))
          rename Fr _ _ _ _ => F50
          rename News _ _ _ _ => N50
          rename_i T50 _ hT50 _
          have hrl : refs.length = ds.length := by rw [hrXa.length]; exact hRl
          have hap50 : ∀ q ∈ (D32, oB) :: ([(dnb, onb), (Kb, okb)] ++ ([(dna, ona), (Ka, oka)] ++ imm)), q.1 ≠ D31 := fun q hq => by
            rcases List.mem_cons.mp hq with rfl | hq
            · exact Ne.symm hne3
            · exact (hapb q hq).1
          refine list_set (own := (T50, _) :: own) F50 N50 (fun q hq => by
            rcases List.mem_cons.mp hq with rfl | hq
            · exact Nat.ne_of_gt (hT50 (D31, oT) (List.mem_append_right _ (.head _)))
            · exact hoff q hq D31 (.head _)) hap50 hoT hpr.1.1 (by rw [hrl]; exact hpr.1.2) (by omega) ?_
          intro h51 tk51 o51 F51 N51 hl51
          clear F50 N50
          repeat' (first | (k_unfold; (try dsimp only)) | ((fail_if_success (with_reducible show wpAny _ _ (getMethod (Value.ref _) (Str.ofString "items") _) _ _ _)); (fail_if_success (with_reducible show wpAny _ _ (getMethod (Value.ref _) (Str.ofString "values") _) _ _ _)); (fail_if_success (with_reducible show wpAny _ _ (call (Value.builtin "dict.items") _) _ _ _)); (fail_if_success (with_reducible show wpAny _ _ (call (Value.builtin "dict.values") _) _ _ _)); (fail_if_success (with_reducible show wpAny _ _ (compareOp CmpOp.In (Value.ref _) (Value.ref _)) _ _ _)); (fail_if_success (with_reducible show wpAny _ _ (setItem (Value.ref _) (Value.ref _) _) _ _ _)); (fail_if_success (with_reducible show wpAny _ _ (subscriptTail _ _ (Value.ref _) (Value.ref _)) _ _ _)); (fail_if_success (with_reducible show wpAny _ _ (eval (Expr.Name (Str.ofString "k") _) (compEnvC _ _ _ _)) _ _ _)); (fail_if_success (with_reducible show wpAny _ _ (call (Value.builtin "list.append") _ _) _ _ _)); (fail_if_success (with_reducible show wpAny _ _ (subscriptTail _ (Expr.Slice _ _ _ _) (Value.ref _) (Value.ref _)) _ _ _)); (fail_if_success (with_reducible show wpAny _ _ (compareOp CmpOp.NotEq (Value.ref _) (Value.ref _)) _ _ _)); (fail_if_success (with_reducible show wpAny _ _ (compareOp CmpOp.Eq (Value.ref _) (Value.ref _)) _ _ _)); (fail_if_success (with_reducible show wpAny _ _ (compareOp CmpOp.Lt (Value.ref _) (Value.ref _)) _ _ _)); (fail_if_success (with_reducible show wpAny _ _ (call (Value.type "enumerate") _ _) _ _ _)); (fail_if_success (with_reducible show wpAny _ _ (exec (Stmt.While _ _ _ _) _) _ _ _)); (fail_if_success (with_reducible show wpAny _ _ (exec (Stmt.For _ _ _ _ _) _) _ _ _)); (fail_if_success (with_reducible show wpAny _ _ (call (Value.ref _) _ _) _ _ _)); (fail_if_success (with_reducible show wpAny _ _ (eval (Expr.ListComp _ _ _ _) _) _ _ _)); (fail_if_success (with_reducible show wpAny _ _ (subscriptTail _ _ (Value.ref _) (Value.int _ _)) _ _ _)); (fail_if_success (with_reducible show wpAny _ _ (setItem (Value.ref _) (Value.int _ _) _) _ _ _)); (fail_if_success (with_reducible show TupStores _ _ _ _ _ _ _ _)); (fail_if_success (with_reducible show wpAny _ _ (call (Value.builtin "len") _ _) _ _ _)); (fail_if_success (with_reducible show wpAny _ _ (call (Value.builtin "min") _ _) _ _ _)); (fail_if_success (with_reducible show wpAny _ _ (call (Value.builtin "max") _ _) _ _ _)); (fail_if_success (with_reducible show wpAny _ _ (call (Value.type "dict") _ _) _ _ _)); (fail_if_success (with_reducible show wpAny _ _ (eval (Expr.Dict _ _ _) _) _ _ _)); walk1; (try dsimp only)))
          refine list_set (own := (T50, _) :: own) F51 N51 (fun q hq => by
            rcases List.mem_cons.mp hq with rfl | hq
            · exact Nat.ne_of_gt (hT50 (D31, oT) (List.mem_append_right _ (.head _)))
            · exact hoff q hq D31 (.head _)) hap50 hl51 hpr.2.1 (by rw [List.length_set, hrl]; exact hpr.2.2) (by rw [List.length_set]; omega) ?_
          intro h52 tk52 o52 F52 N52 hl52
          clear F51 N51
          repeat' (first | (k_unfold; (try dsimp only)) | ((fail_if_success (with_reducible show wpAny _ _ (getMethod (Value.ref _) (Str.ofString "items") _) _ _ _)); (fail_if_success (with_reducible show wpAny _ _ (getMethod (Value.ref _) (Str.ofString "values") _) _ _ _)); (fail_if_success (with_reducible show wpAny _ _ (call (Value.builtin "dict.items") _) _ _ _)); (fail_if_success (with_reducible show wpAny _ _ (call (Value.builtin "dict.values") _) _ _ _)); (fail_if_success (with_reducible show wpAny _ _ (compareOp CmpOp.In (Value.ref _) (Value.ref _)) _ _ _)); (fail_if_success (with_reducible show wpAny _ _ (setItem (Value.ref _) (Value.ref _) _) _ _ _)); (fail_if_success (with_reducible show wpAny _ _ (subscriptTail _ _ (Value.ref _) (Value.ref _)) _ _ _)); (fail_if_success (with_reducible show wpAny _ _ (eval (Expr.Name (Str.ofString "k") _) (compEnvC _ _ _ _)) _ _ _)); (fail_if_success (with_reducible show wpAny _ _ (call (Value.builtin "list.append") _ _) _ _ _)); (fail_if_success (with_reducible show wpAny _ _ (subscriptTail _ (Expr.Slice _ _ _ _) (Value.ref _) (Value.ref _)) _ _ _)); (fail_if_success (with_reducible show wpAny _ _ (compareOp CmpOp.NotEq (Value.ref _) (Value.ref _)) _ _ _)); (fail_if_success (with_reducible show wpAny _ _ (compareOp CmpOp.Eq (Value.ref _) (Value.ref _)) _ _ _)); (fail_if_success (with_reducible show wpAny _ _ (compareOp CmpOp.Lt (Value.ref _) (Value.ref _)) _ _ _)); (fail_if_success (with_reducible show wpAny _ _ (call (Value.type "enumerate") _ _) _ _ _)); (fail_if_success (with_reducible show wpAny _ _ (exec (Stmt.While _ _ _ _) _) _ _ _)); (fail_if_success (with_reducible show wpAny _ _ (exec (Stmt.For _ _ _ _ _) _) _ _ _)); (fail_if_success (with_reducible show wpAny _ _ (call (Value.ref _) _ _) _ _ _)); (fail_if_success (with_reducible show wpAny _ _ (eval (Expr.ListComp _ _ _ _) _) _ _ _)); (fail_if_success (with_reducible show wpAny _ _ (subscriptTail _ _ (Value.ref _) (Value.int _ _)) _ _ _)); (fail_if_success (with_reducible show wpAny _ _ (setItem (Value.ref _) (Value.int _ _) _) _ _ _)); (fail_if_success (with_reducible show TupStores _ _ _ _ _ _ _ _)); (fail_if_success (with_reducible show wpAny _ _ (call (Value.builtin "len") _ _) _ _ _)); (fail_if_success (with_reducible show wpAny _ _ (call (Value.builtin "min") _ _) _ _ _)); (fail_if_success (with_reducible show wpAny _ _ (call (Value.builtin "max") _ _) _ _ _)); (fail_if_success (with_reducible show wpAny _ _ (call (Value.type "dict") _ _) _ _ _)); (fail_if_success (with_reducible show wpAny _ _ (eval (Expr.Dict _ _ _) _) _ _ _)); walk1; (try dsimp only)))
          refine' TurnQ.intro F52 (nx := (D31, o52) :: (D32, oB) :: ([(dnb, onb), (Kb, okb)] ++ ([(dna, ona), (Ka, oka)] ++ imm))) (fun q hq => N52 q (.tail _ hq)) ?_ ⟨_, _, _, ([(dnb, onb), (Kb, okb)] ++ ([(dna, ona), (Ka, oka)] ++ imm)), _, _, _, rfl, hl52, hoB, hapb, ?_, ?_, ?_, ?meq⟩
          case meq =>
            (funext y; first | rfl | ((try dsimp only); by_cases hh0 : y = (Str.ofString "two"); (· subst hh0; rfl); by_cases hh1 : y = (Str.ofString "one"); (· subst hh1; rfl); by_cases hh2 : y = (Str.ofString "there"); (· subst hh2; rfl); by_cases hh3 : y = (Str.ofString "back"); (· subst hh3; rfl); by_cases hh4 : y = (Str.ofString "full"); (· subst hh4; rfl); by_cases hh5 : y = (Str.ofString "ties"); (· subst hh5; rfl); by_cases hh6 : y = (Str.ofString "degrees"); (· subst hh6; rfl); simp only [hh0, hh1, hh2, hh3, hh4, hh5, hh6, if_false]))
          · intro q hq
            rcases List.mem_cons.mp hq with rfl | hq
            · exact hnwb (D31, oT) (.head _)
            · exact hnwb q (.tail _ hq)
          · exact fun q hq => List.mem_append_right _ (List.mem_append_right _ (hsub q hq))
          · rw [fold_take_succ _ _ _ _ _ hp]
            exact (All2.set (hrXa.mono fun v T r => r.mono fun q hq => List.mem_append_right _ hq) ⟨dna, ona, rfl, List.mem_append_right _ (.head _), lna, tna.mono fun _ _ k => k.mono fun q hq => List.mem_append_right _ (.tail _ hq)⟩ _).set ⟨dnb, onb, rfl, .head _, lnb, tnb.mono fun _ _ k => k.mono fun q hq => .tail _ hq⟩ _
          · exact hrB.mono fun v T r => r.mono fun q hq => List.mem_append_right _ (List.mem_append_right _ hq)
        rintro h60 tk60 m60 nx60 F60 N60 ⟨refsT, oT, oB, imm1, u1, u2, u3, rfl, hoT, hoB, hap1, hsub1, hrT1, hrB1, rfl⟩
        rw [hil, List.take_length] at hrT1
        replace hrT1 : All2 (RowIn PySem.Challenge.rw_zs0001_01.row.prog w0 imm1) refsT (thereR ds ties) := hrT1
        dsimp only [envOf] at F60 N60
        clear hrT0 hrB0 hap0 hsub0 N34 F33
        repeat' (first | (k_unfold; (try dsimp only)) | ((fail_if_success (with_reducible show wpAny _ _ (getMethod (Value.ref _) (Str.ofString "items") _) _ _ _)); (fail_if_success (with_reducible show wpAny _ _ (getMethod (Value.ref _) (Str.ofString "values") _) _ _ _)); (fail_if_success (with_reducible show wpAny _ _ (call (Value.builtin "dict.items") _) _ _ _)); (fail_if_success (with_reducible show wpAny _ _ (call (Value.builtin "dict.values") _) _ _ _)); (fail_if_success (with_reducible show wpAny _ _ (compareOp CmpOp.In (Value.ref _) (Value.ref _)) _ _ _)); (fail_if_success (with_reducible show wpAny _ _ (setItem (Value.ref _) (Value.ref _) _) _ _ _)); (fail_if_success (with_reducible show wpAny _ _ (subscriptTail _ _ (Value.ref _) (Value.ref _)) _ _ _)); (fail_if_success (with_reducible show wpAny _ _ (eval (Expr.Name (Str.ofString "k") _) (compEnvC _ _ _ _)) _ _ _)); (fail_if_success (with_reducible show wpAny _ _ (call (Value.builtin "list.append") _ _) _ _ _)); (fail_if_success (with_reducible show wpAny _ _ (subscriptTail _ (Expr.Slice _ _ _ _) (Value.ref _) (Value.ref _)) _ _ _)); (fail_if_success (with_reducible show wpAny _ _ (compareOp CmpOp.NotEq (Value.ref _) (Value.ref _)) _ _ _)); (fail_if_success (with_reducible show wpAny _ _ (compareOp CmpOp.Eq (Value.ref _) (Value.ref _)) _ _ _)); (fail_if_success (with_reducible show wpAny _ _ (compareOp CmpOp.Lt (Value.ref _) (Value.ref _)) _ _ _)); (fail_if_success (with_reducible show wpAny _ _ (call (Value.type "enumerate") _ _) _ _ _)); (fail_if_success (with_reducible show wpAny _ _ (exec (Stmt.While _ _ _ _) _) _ _ _)); (fail_if_success (with_reducible show wpAny _ _ (exec (Stmt.For _ _ _ _ _) _) _ _ _)); (fail_if_success (with_reducible show wpAny _ _ (call (Value.ref _) _ _) _ _ _)); (fail_if_success (with_reducible show wpAny _ _ (eval (Expr.ListComp _ _ _ _) _) _ _ _)); (fail_if_success (with_reducible show wpAny _ _ (subscriptTail _ _ (Value.ref _) (Value.int _ _)) _ _ _)); (fail_if_success (with_reducible show wpAny _ _ (setItem (Value.ref _) (Value.int _ _) _) _ _ _)); (fail_if_success (with_reducible show TupStores _ _ _ _ _ _ _ _)); (fail_if_success (with_reducible show wpAny _ _ (call (Value.builtin "len") _ _) _ _ _)); (fail_if_success (with_reducible show wpAny _ _ (call (Value.builtin "min") _ _) _ _ _)); (fail_if_success (with_reducible show wpAny _ _ (call (Value.builtin "max") _ _) _ _ _)); (fail_if_success (with_reducible show wpAny _ _ (call (Value.type "dict") _ _) _ _ _)); (fail_if_success (with_reducible show wpAny _ _ (eval (Expr.Dict _ _ _) _) _ _ _)); walk1; (try dsimp only)))
        refine For_turns F60 ?_
        repeat' (first | (k_unfold; (try dsimp only)) | ((fail_if_success (with_reducible show wpAny _ _ (getMethod (Value.ref _) (Str.ofString "items") _) _ _ _)); (fail_if_success (with_reducible show wpAny _ _ (getMethod (Value.ref _) (Str.ofString "values") _) _ _ _)); (fail_if_success (with_reducible show wpAny _ _ (call (Value.builtin "dict.items") _) _ _ _)); (fail_if_success (with_reducible show wpAny _ _ (call (Value.builtin "dict.values") _) _ _ _)); (fail_if_success (with_reducible show wpAny _ _ (compareOp CmpOp.In (Value.ref _) (Value.ref _)) _ _ _)); (fail_if_success (with_reducible show wpAny _ _ (setItem (Value.ref _) (Value.ref _) _) _ _ _)); (fail_if_success (with_reducible show wpAny _ _ (subscriptTail _ _ (Value.ref _) (Value.ref _)) _ _ _)); (fail_if_success (with_reducible show wpAny _ _ (eval (Expr.Name (Str.ofString "k") _) (compEnvC _ _ _ _)) _ _ _)); (fail_if_success (with_reducible show wpAny _ _ (call (Value.builtin "list.append") _ _) _ _ _)); (fail_if_success (with_reducible show wpAny _ _ (subscriptTail _ (Expr.Slice _ _ _ _) (Value.ref _) (Value.ref _)) _ _ _)); (fail_if_success (with_reducible show wpAny _ _ (compareOp CmpOp.NotEq (Value.ref _) (Value.ref _)) _ _ _)); (fail_if_success (with_reducible show wpAny _ _ (compareOp CmpOp.Eq (Value.ref _) (Value.ref _)) _ _ _)); (fail_if_success (with_reducible show wpAny _ _ (compareOp CmpOp.Lt (Value.ref _) (Value.ref _)) _ _ _)); (fail_if_success (with_reducible show wpAny _ _ (call (Value.type "enumerate") _ _) _ _ _)); (fail_if_success (with_reducible show wpAny _ _ (exec (Stmt.While _ _ _ _) _) _ _ _)); (fail_if_success (with_reducible show wpAny _ _ (exec (Stmt.For _ _ _ _ _) _) _ _ _)); (fail_if_success (with_reducible show wpAny _ _ (call (Value.ref _) _ _) _ _ _)); (fail_if_success (with_reducible show wpAny _ _ (eval (Expr.ListComp _ _ _ _) _) _ _ _)); (fail_if_success (with_reducible show wpAny _ _ (subscriptTail _ _ (Value.ref _) (Value.int _ _)) _ _ _)); (fail_if_success (with_reducible show wpAny _ _ (setItem (Value.ref _) (Value.int _ _) _) _ _ _)); (fail_if_success (with_reducible show TupStores _ _ _ _ _ _ _ _)); (fail_if_success (with_reducible show wpAny _ _ (call (Value.builtin "len") _ _) _ _ _)); (fail_if_success (with_reducible show wpAny _ _ (call (Value.builtin "min") _ _) _ _ _)); (fail_if_success (with_reducible show wpAny _ _ (call (Value.builtin "max") _ _) _ _ _)); (fail_if_success (with_reducible show wpAny _ _ (call (Value.type "dict") _ _) _ _ _)); (fail_if_success (with_reducible show wpAny _ _ (eval (Expr.Dict _ _ _) _) _ _ _)); walk1; (try dsimp only)))
        refine slice_rev F60 N60 (news_list N60 (.tail _ (.tail _ (hsub1 _ ham)))) (IsPart.int _ _) ?_ (by with_unfolding_all rfl) (by kmk_pure) (by rw [hil]; simp only [sizeLine_eq]; omega)
        intro D61 h61 F61 N61 hD61
        clear F60 N60
        have hallr := hall.reverse
        have hhit2 : ∀ (j : Nat) (v : Value), items.reverse[j]? = some v → ∃ (T : Addr) (a b : Value), v = Value.ref T ∧ (∃ o : Obj, (T, o) ∈ tups ∧ o.cls = Value.type "tuple" ∧ ∃ n, o.data = Data.seq #[a, b] n) ∧ ∃ (p : Int × Int) (t u : Tok), ties.reverse[j]? = some p ∧ a = Value.int p.1 t ∧ b = Value.int p.2 u := by
          intro j v hv
          obtain ⟨p, hp, T, t, u, nT, rfl, hm⟩ := hallr.get? hv
          exact ⟨T, _, _, rfl, ⟨_, hm, rfl, nT, rfl⟩, p, t, u, hp, rfl, rfl⟩
        repeat' (first | (k_unfold; (try dsimp only)) | ((fail_if_success (with_reducible show wpAny _ _ (getMethod (Value.ref _) (Str.ofString "items") _) _ _ _)); (fail_if_success (with_reducible show wpAny _ _ (getMethod (Value.ref _) (Str.ofString "values") _) _ _ _)); (fail_if_success (with_reducible show wpAny _ _ (call (Value.builtin "dict.items") _) _ _ _)); (fail_if_success (with_reducible show wpAny _ _ (call (Value.builtin "dict.values") _) _ _ _)); (fail_if_success (with_reducible show wpAny _ _ (compareOp CmpOp.In (Value.ref _) (Value.ref _)) _ _ _)); (fail_if_success (with_reducible show wpAny _ _ (setItem (Value.ref _) (Value.ref _) _) _ _ _)); (fail_if_success (with_reducible show wpAny _ _ (subscriptTail _ _ (Value.ref _) (Value.ref _)) _ _ _)); (fail_if_success (with_reducible show wpAny _ _ (eval (Expr.Name (Str.ofString "k") _) (compEnvC _ _ _ _)) _ _ _)); (fail_if_success (with_reducible show wpAny _ _ (call (Value.builtin "list.append") _ _) _ _ _)); (fail_if_success (with_reducible show wpAny _ _ (subscriptTail _ (Expr.Slice _ _ _ _) (Value.ref _) (Value.ref _)) _ _ _)); (fail_if_success (with_reducible show wpAny _ _ (compareOp CmpOp.NotEq (Value.ref _) (Value.ref _)) _ _ _)); (fail_if_success (with_reducible show wpAny _ _ (compareOp CmpOp.Eq (Value.ref _) (Value.ref _)) _ _ _)); (fail_if_success (with_reducible show wpAny _ _ (compareOp CmpOp.Lt (Value.ref _) (Value.ref _)) _ _ _)); (fail_if_success (with_reducible show wpAny _ _ (call (Value.type "enumerate") _ _) _ _ _)); (fail_if_success (with_reducible show wpAny _ _ (exec (Stmt.While _ _ _ _) _) _ _ _)); (fail_if_success (with_reducible show wpAny _ _ (exec (Stmt.For _ _ _ _ _) _) _ _ _)); (fail_if_success (with_reducible show wpAny _ _ (call (Value.ref _) _ _) _ _ _)); (fail_if_success (with_reducible show wpAny _ _ (eval (Expr.ListComp _ _ _ _) _) _ _ _)); (fail_if_success (with_reducible show wpAny _ _ (subscriptTail _ _ (Value.ref _) (Value.int _ _)) _ _ _)); (fail_if_success (with_reducible show wpAny _ _ (setItem (Value.ref _) (Value.int _ _) _) _ _ _)); (fail_if_success (with_reducible show TupStores _ _ _ _ _ _ _ _)); (fail_if_success (with_reducible show wpAny _ _ (call (Value.builtin "len") _ _) _ _ _)); (fail_if_success (with_reducible show wpAny _ _ (call (Value.builtin "min") _ _) _ _ _)); (fail_if_success (with_reducible show wpAny _ _ (call (Value.builtin "max") _ _) _ _ _)); (fail_if_success (with_reducible show wpAny _ _ (call (Value.type "dict") _ _) _ _ _)); (fail_if_success (with_reducible show wpAny _ _ (eval (Expr.Dict _ _ _) _) _ _ _)); walk1; (try dsimp only)))
        have N62 := N61.perm (news' := (D32, oB) :: (D31, oT) :: ((D61, listOf items.reverse.toArray 0) :: imm1)) (by
          intro p hp
          simp only [List.mem_cons] at hp ⊢
          rcases hp with hp | hp | hp | hp <;> simp [hp])
        have hsub2 : ∀ q ∈ nx, q ∈ (D61, listOf items.reverse.toArray 0) :: imm1 := fun q hq => .tail _ (hsub1 q hq)
        have hap2 : ∀ q ∈ (D61, listOf items.reverse.toArray 0) :: imm1, q.1 ≠ D32 ∧ q.1 ≠ D31 := by
          intro q hq
          rcases List.mem_cons.mp hq with rfl | hq
          · exact ⟨Nat.ne_of_gt (hD61 (D32, oB) (.tail _ (.head _))), Nat.ne_of_gt (hD61 (D31, oT) (.head _))⟩
          · exact ⟨(hap1 q hq).2, (hap1 q hq).1⟩
        have hrT2 : All2 (RowIn PySem.Challenge.rw_zs0001_01.row.prog w0 ((D61, listOf items.reverse.toArray 0) :: imm1)) refsT (thereR ds ties) := hrT1.mono fun v T r => r.mono fun q hq => .tail _ hq
        have hrB2 : All2 (RowIn PySem.Challenge.rw_zs0001_01.row.prog w0 ((D61, listOf items.reverse.toArray 0) :: imm1)) ys32 (nils ds) := hrB1.mono fun v T r => r.mono fun q hq => .tail _ hq
        clear N61 hap1 hsub1 hrT1 hrB1
        refine for_pairs (R := fun j a b => ∃ (p : Int × Int) (t u : Tok), ties.reverse[j]? = some p ∧ a = Value.int p.1 t ∧ b = Value.int p.2 u) (vs := items.reverse) rfl rfl rfl rfl (news_list N62 (.tail _ (.tail _ (.head _)))) (N62 _ (.tail _ (.tail _ (.head _)))).2.1 F61 N62
          (fun i m nx' => ∃ refs oT oB imm u1 u2 u3, nx' = (D32, oB) :: (D31, oT) :: imm ∧ ListO oB refs ∧ ListO oT refsT ∧ (∀ q ∈ imm, q.1 ≠ D32 ∧ q.1 ≠ D31) ∧ (∀ q ∈ nx, q ∈ imm) ∧ All2 (RowIn PySem.Challenge.rw_zs0001_01.row.prog w0 imm) refs ((ties.reverse.take i).foldl stepB (nils ds)) ∧
            All2 (RowIn PySem.Challenge.rw_zs0001_01.row.prog w0 imm) refsT (thereR ds ties) ∧
            m = fun y => if y = (Str.ofString "two") then u1 else if y = (Str.ofString "one") then u2 else if y = (Str.ofString "there") then some (Value.ref D31) else if y = (Str.ofString "back") then some (Value.ref D32) else if y = (Str.ofString "full") then u3 else if y = (Str.ofString "ties") then some (Value.ref al) else if y = (Str.ofString "degrees") then some (Value.ref dl) else List.lookup y [((Str.ofString "script"), Value.ref sc)].reverse)
          ⟨ys32, oT, oB, _, u1, u2, u3, rfl, hoB, hoT, hap2, hsub2, hrB2, hrT2, rfl⟩ [D32] ?_ ?_ ?_ ?_
        · intro a ha
          rw [List.mem_singleton.mp ha]
          exact ⟨Ne.symm (hap2 _ (.head _)).1, _, .head _⟩
        · intro j v hv
          obtain ⟨T, a, b, rfl, ⟨o, hm, hc, n, hd⟩, r⟩ := hhit2 j v hv
          have hmm := N62 _ (.tail _ (.tail _ (hsub2 _ (htm _ hm))))
          exact ⟨T, a, b, rfl, hmm.2.1, fun h => (hnxap _ (htm _ hm)).2 (List.mem_singleton.mp h), ⟨o, hmm.1, hc, n, hd⟩, r⟩
        · rintro i v0 v1 m₁ _ h40 tk40 own wr hi ⟨p, t, u, hp, rfl, rfl⟩ ⟨refs, oT, oB, imm, u1, u2, u3, rfl, hoB, hoT, hap, hsub, hrB, hrT, rfl⟩ hnw hown hoff F40 N40
          dsimp only [envOf] at F40 N40
          k_fold
          have hpr := hrg p (List.mem_reverse.mp (List.mem_of_getElem? hp))
          have hRl : ((ties.reverse.take i).foldl stepB (nils ds)).length = ds.length := by rw [foldB_len]; simp [nils]
          repeat' (first | (k_unfold; (try dsimp only)) | ((fail_if_success (with_reducible show wpAny _ _ (getMethod (Value.ref _) (Str.ofString "items") _) _ _ _)); (fail_if_success (with_reducible show wpAny _ _ (getMethod (Value.ref _) (Str.ofString "values") _) _ _ _)); (fail_if_success (with_reducible show wpAny _ _ (call (Value.builtin "dict.items") _) _ _ _)); (fail_if_success (with_reducible show wpAny _ _ (call (Value.builtin "dict.values") _) _ _ _)); (fail_if_success (with_reducible show wpAny _ _ (compareOp CmpOp.In (Value.ref _) (Value.ref _)) _ _ _)); (fail_if_success (with_reducible show wpAny _ _ (setItem (Value.ref _) (Value.ref _) _) _ _ _)); (fail_if_success (with_reducible show wpAny _ _ (subscriptTail _ _ (Value.ref _) (Value.ref _)) _ _ _)); (fail_if_success (with_reducible show wpAny _ _ (eval (Expr.Name (Str.ofString "k") _) (compEnvC _ _ _ _)) _ _ _)); (fail_if_success (with_reducible show wpAny _ _ (call (Value.builtin "list.append") _ _) _ _ _)); (fail_if_success (with_reducible show wpAny _ _ (subscriptTail _ (Expr.Slice _ _ _ _) (Value.ref _) (Value.ref _)) _ _ _)); (fail_if_success (with_reducible show wpAny _ _ (compareOp CmpOp.NotEq (Value.ref _) (Value.ref _)) _ _ _)); (fail_if_success (with_reducible show wpAny _ _ (compareOp CmpOp.Eq (Value.ref _) (Value.ref _)) _ _ _)); (fail_if_success (with_reducible show wpAny _ _ (compareOp CmpOp.Lt (Value.ref _) (Value.ref _)) _ _ _)); (fail_if_success (with_reducible show wpAny _ _ (call (Value.type "enumerate") _ _) _ _ _)); (fail_if_success (with_reducible show wpAny _ _ (exec (Stmt.While _ _ _ _) _) _ _ _)); (fail_if_success (with_reducible show wpAny _ _ (exec (Stmt.For _ _ _ _ _) _) _ _ _)); (fail_if_success (with_reducible show wpAny _ _ (call (Value.ref _) _ _) _ _ _)); (fail_if_success (with_reducible show wpAny _ _ (eval (Expr.ListComp _ _ _ _) _) _ _ _)); (fail_if_success (with_reducible show wpAny _ _ (subscriptTail _ _ (Value.ref _) (Value.int _ _)) _ _ _)); (fail_if_success (with_reducible show wpAny _ _ (setItem (Value.ref _) (Value.int _ _) _) _ _ _)); (fail_if_success (with_reducible show TupStores _ _ _ _ _ _ _ _)); (fail_if_success (with_reducible show wpAny _ _ (call (Value.builtin "len") _ _) _ _ _)); (fail_if_success (with_reducible show wpAny _ _ (call (Value.builtin "min") _ _) _ _ _)); (fail_if_success (with_reducible show wpAny _ _ (call (Value.builtin "max") _ _) _ _ _)); (fail_if_success (with_reducible show wpAny _ _ (call (Value.type "dict") _ _) _ _ _)); (fail_if_success (with_reducible show wpAny _ _ (eval (Expr.Dict _ _ _) _) _ _ _)); walk1; (try dsimp only)))
          obtain ⟨vra, hvra, dra, ora, rfl, hmra, lra, tra⟩ := rows_ref hrB (k := p.2) (by rw [hRl]; omega)
          have lta : ∀ q ∈ own ++ (D32, oB) :: (D31, oT) :: imm, q.1 ≠ _ := fun q hq => Nat.ne_of_lt (Heap.lt_size (N40 q hq).1)
          refine Dict_tup_made rfl F40 N40 hbig rfl rfl (by simp) (by decide) ?_
          intro oDa Faa Naa lDa iDa
          repeat' (first | (k_unfold; (try dsimp only)) | ((fail_if_success (with_reducible show wpAny _ _ (getMethod (Value.ref _) (Str.ofString "items") _) _ _ _)); (fail_if_success (with_reducible show wpAny _ _ (getMethod (Value.ref _) (Str.ofString "values") _) _ _ _)); (fail_if_success (with_reducible show wpAny _ _ (call (Value.builtin "dict.items") _) _ _ _)); (fail_if_success (with_reducible show wpAny _ _ (call (Value.builtin "dict.values") _) _ _ _)); (fail_if_success (with_reducible show wpAny _ _ (compareOp CmpOp.In (Value.ref _) (Value.ref _)) _ _ _)); (fail_if_success (with_reducible show wpAny _ _ (setItem (Value.ref _) (Value.ref _) _) _ _ _)); (fail_if_success (with_reducible show wpAny _ _ (subscriptTail _ _ (Value.ref _) (Value.ref _)) _ _ _)); (fail_if_success (with_reducible show wpAny _ _ (eval (Expr.Name (Str.ofString "k") _) (compEnvC _ _ _ _)) _ _ _)); (fail_if_success (with_reducible show wpAny _ _ (call (Value.builtin "list.append") _ _) _ _ _)); (fail_if_success (with_reducible show wpAny _ _ (subscriptTail _ (Expr.Slice _ _ _ _) (Value.ref _) (Value.ref _)) _ _ _)); (fail_if_success (with_reducible show wpAny _ _ (compareOp CmpOp.NotEq (Value.ref _) (Value.ref _)) _ _ _)); (fail_if_success (with_reducible show wpAny _ _ (compareOp CmpOp.Eq (Value.ref _) (Value.ref _)) _ _ _)); (fail_if_success (with_reducible show wpAny _ _ (compareOp CmpOp.Lt (Value.ref _) (Value.ref _)) _ _ _)); (fail_if_success (with_reducible show wpAny _ _ (call (Value.type "enumerate") _ _) _ _ _)); (fail_if_success (with_reducible show wpAny _ _ (exec (Stmt.While _ _ _ _) _) _ _ _)); (fail_if_success (with_reducible show wpAny _ _ (exec (Stmt.For _ _ _ _ _) _) _ _ _)); (fail_if_success (with_reducible show wpAny _ _ (call (Value.ref _) _ _) _ _ _)); (fail_if_success (with_reducible show wpAny _ _ (eval (Expr.ListComp _ _ _ _) _) _ _ _)); (fail_if_success (with_reducible show wpAny _ _ (subscriptTail _ _ (Value.ref _) (Value.int _ _)) _ _ _)); (fail_if_success (with_reducible show wpAny _ _ (setItem (Value.ref _) (Value.int _ _) _) _ _ _)); (fail_if_success (with_reducible show TupStores _ _ _ _ _ _ _ _)); (fail_if_success (with_reducible show wpAny _ _ (call (Value.builtin "len") _ _) _ _ _)); (fail_if_success (with_reducible show wpAny _ _ (call (Value.builtin "min") _ _) _ _ _)); (fail_if_success (with_reducible show wpAny _ _ (call (Value.builtin "max") _ _) _ _ _)); (fail_if_success (with_reducible show wpAny _ _ (call (Value.type "dict") _ _) _ _ _)); (fail_if_success (with_reducible show wpAny _ _ (eval (Expr.Dict _ _ _) _) _ _ _)); walk1; (try dsimp only)))
          rename Fr _ _ _ _ => Fab
          rename News _ _ _ _ => Nab
          rename_i Ka _ hKa
          dsimp only at Nab lDa
          obtain ⟨oka, hoka, Nab⟩ := split_key (ks := kf p.1) (prog := PySem.Challenge.rw_zs0001_01.row.prog) (w := w0) Nab ⟨rfl, _, _, rfl, key_items⟩
          refine store_one (KP := KeyIn PySem.Challenge.rw_zs0001_01.row.prog w0 ((Ka, oka) :: imm)) (k := kf p.1) (own := [(Ka, oka)]) (un_law0 _) Fab Nab (fun q hq => by rw [List.mem_singleton.mp hq]; exact Nat.ne_of_gt hKa.1) lta (tab_new iDa)
            (fun ks b k => k.key (fun q hq => Nab q (by
              rcases List.mem_cons.mp hq with rfl | hq
              · exact .head _
              · exact .tail _ (.tail _ (List.mem_append_right _ (.tail _ (.tail _ hq))))))) ⟨oka, .head _, hoka⟩ ?_
          intro hac tkac oda Fac Nac tda
          clear Fab Nab
          repeat' (first | (k_unfold; (try dsimp only)) | ((fail_if_success (with_reducible show wpAny _ _ (getMethod (Value.ref _) (Str.ofString "items") _) _ _ _)); (fail_if_success (with_reducible show wpAny _ _ (getMethod (Value.ref _) (Str.ofString "values") _) _ _ _)); (fail_if_success (with_reducible show wpAny _ _ (call (Value.builtin "dict.items") _) _ _ _)); (fail_if_success (with_reducible show wpAny _ _ (call (Value.builtin "dict.values") _) _ _ _)); (fail_if_success (with_reducible show wpAny _ _ (compareOp CmpOp.In (Value.ref _) (Value.ref _)) _ _ _)); (fail_if_success (with_reducible show wpAny _ _ (setItem (Value.ref _) (Value.ref _) _) _ _ _)); (fail_if_success (with_reducible show wpAny _ _ (subscriptTail _ _ (Value.ref _) (Value.ref _)) _ _ _)); (fail_if_success (with_reducible show wpAny _ _ (eval (Expr.Name (Str.ofString "k") _) (compEnvC _ _ _ _)) _ _ _)); (fail_if_success (with_reducible show wpAny _ _ (call (Value.builtin "list.append") _ _) _ _ _)); (fail_if_success (with_reducible show wpAny _ _ (subscriptTail _ (Expr.Slice _ _ _ _) (Value.ref _) (Value.ref _)) _ _ _)); (fail_if_success (with_reducible show wpAny _ _ (compareOp CmpOp.NotEq (Value.ref _) (Value.ref _)) _ _ _)); (fail_if_success (with_reducible show wpAny _ _ (compareOp CmpOp.Eq (Value.ref _) (Value.ref _)) _ _ _)); (fail_if_success (with_reducible show wpAny _ _ (compareOp CmpOp.Lt (Value.ref _) (Value.ref _)) _ _ _)); (fail_if_success (with_reducible show wpAny _ _ (call (Value.type "enumerate") _ _) _ _ _)); (fail_if_success (with_reducible show wpAny _ _ (exec (Stmt.While _ _ _ _) _) _ _ _)); (fail_if_success (with_reducible show wpAny _ _ (exec (Stmt.For _ _ _ _ _) _) _ _ _)); (fail_if_success (with_reducible show wpAny _ _ (call (Value.ref _) _ _) _ _ _)); (fail_if_success (with_reducible show wpAny _ _ (eval (Expr.ListComp _ _ _ _) _) _ _ _)); (fail_if_success (with_reducible show wpAny _ _ (subscriptTail _ _ (Value.ref _) (Value.int _ _)) _ _ _)); (fail_if_success (with_reducible show wpAny _ _ (setItem (Value.ref _) (Value.int _ _) _) _ _ _)); (fail_if_success (with_reducible show TupStores _ _ _ _ _ _ _ _)); (fail_if_success (with_reducible show wpAny _ _ (call (Value.builtin "len") _ _) _ _ _)); (fail_if_success (with_reducible show wpAny _ _ (call (Value.builtin "min") _ _) _ _ _)); (fail_if_success (with_reducible show wpAny _ _ (call (Value.builtin "max") _ _) _ _ _)); (fail_if_success (with_reducible show wpAny _ _ (call (Value.type "dict") _ _) _ _ _)); (fail_if_success (with_reducible show wpAny _ _ (eval (Expr.Dict _ _ _) _) _ _ _)); walk1; (try dsimp only)))
          refine list_at (hoB.list Nac (.tail _ (.tail _ (List.mem_append_right _ (.head _))))) hpr.2.1 (by omega) hvra ?_
          repeat' (first | (k_unfold; (try dsimp only)) | ((fail_if_success (with_reducible show wpAny _ _ (getMethod (Value.ref _) (Str.ofString "items") _) _ _ _)); (fail_if_success (with_reducible show wpAny _ _ (getMethod (Value.ref _) (Str.ofString "values") _) _ _ _)); (fail_if_success (with_reducible show wpAny _ _ (call (Value.builtin "dict.items") _) _ _ _)); (fail_if_success (with_reducible show wpAny _ _ (call (Value.builtin "dict.values") _) _ _ _)); (fail_if_success (with_reducible show wpAny _ _ (compareOp CmpOp.In (Value.ref _) (Value.ref _)) _ _ _)); (fail_if_success (with_reducible show wpAny _ _ (setItem (Value.ref _) (Value.ref _) _) _ _ _)); (fail_if_success (with_reducible show wpAny _ _ (subscriptTail _ _ (Value.ref _) (Value.ref _)) _ _ _)); (fail_if_success (with_reducible show wpAny _ _ (eval (Expr.Name (Str.ofString "k") _) (compEnvC _ _ _ _)) _ _ _)); (fail_if_success (with_reducible show wpAny _ _ (call (Value.builtin "list.append") _ _) _ _ _)); (fail_if_success (with_reducible show wpAny _ _ (subscriptTail _ (Expr.Slice _ _ _ _) (Value.ref _) (Value.ref _)) _ _ _)); (fail_if_success (with_reducible show wpAny _ _ (compareOp CmpOp.NotEq (Value.ref _) (Value.ref _)) _ _ _)); (fail_if_success (with_reducible show wpAny _ _ (compareOp CmpOp.Eq (Value.ref _) (Value.ref _)) _ _ _)); (fail_if_success (with_reducible show wpAny _ _ (compareOp CmpOp.Lt (Value.ref _) (Value.ref _)) _ _ _)); (fail_if_success (with_reducible show wpAny _ _ (call (Value.type "enumerate") _ _) _ _ _)); (fail_if_success (with_reducible show wpAny _ _ (exec (Stmt.While _ _ _ _) _) _ _ _)); (fail_if_success (with_reducible show wpAny _ _ (exec (Stmt.For _ _ _ _ _) _) _ _ _)); (fail_if_success (with_reducible show wpAny _ _ (call (Value.ref _) _ _) _ _ _)); (fail_if_success (with_reducible show wpAny _ _ (eval (Expr.ListComp _ _ _ _) _) _ _ _)); (fail_if_success (with_reducible show wpAny _ _ (subscriptTail _ _ (Value.ref _) (Value.int _ _)) _ _ _)); (fail_if_success (with_reducible show wpAny _ _ (setItem (Value.ref _) (Value.int _ _) _) _ _ _)); (fail_if_success (with_reducible show TupStores _ _ _ _ _ _ _ _)); (fail_if_success (with_reducible show wpAny _ _ (call (Value.builtin "len") _ _) _ _ _)); (fail_if_success (with_reducible show wpAny _ _ (call (Value.builtin "min") _ _) _ _ _)); (fail_if_success (with_reducible show wpAny _ _ (call (Value.builtin "max") _ _) _ _ _)); (fail_if_success (with_reducible show wpAny _ _ (call (Value.type "dict") _ _) _ _ _)); (fail_if_success (with_reducible show wpAny _ _ (eval (Expr.Dict _ _ _) _) _ _ _)); walk1; (try dsimp only)))
          have hka : News _ _ _ ((Ka, oka) :: imm) := fun q hq => Nac q (by
            rcases List.mem_cons.mp hq with rfl | hq
            · exact .head _
            · exact .tail _ (.tail _ (List.mem_append_right _ (.tail _ (.tail _ hq)))))
          refine add_spec (KP := KeyIn PySem.Challenge.rw_zs0001_01.row.prog w0 ((Ka, oka) :: imm)) (X0.keeps Fac.keep) (T0.keeps Fac.keep) (by decide) (by decide) (fun ks b k => k.key hka) (Nac (_, oda) (.tail _ (.head _))).1 (Nac (dra, ora) (.tail _ (.tail _ (List.mem_append_right _ (.tail _ (.tail _ hmra)))))).1 lDa lra tda (tra.mono fun _ _ k => k.mono fun q hq => .tail _ hq) (by
            have hl1 := foldB_le ds (ties.reverse.take i) p.2
            have hl2 : (ties.take i).length ≤ ties.length := by rw [List.length_take]; omega
            have hl3 : (ties.reverse.take i).length ≤ ties.length := by rw [List.length_take, List.length_reverse]; omega
            simp only [List.length_cons, List.length_nil, sizeLine_eq]
            omega) ?_
          intro had tkad dna ona upa fra lna hoa tna
          have Fad := Fac.keeps upa
          have hna := fresh_of Fac fra
          have Nad : News _ _ _ ([(dna, ona), (Ka, oka)] ++ (own ++ (D32, oB) :: (D31, oT) :: imm)) := news_cons hoa hna.1 hna.2 (News.keeps (fun q hq => Nac q (by
            rcases List.mem_cons.mp hq with rfl | hq
            · exact .head _
            · exact .tail _ (.tail _ hq))) upa)
          obtain ⟨Nae, hnwa, hapa⟩ := loop_new Nad (by
            intro q hq p hp
            simp only [List.mem_cons, List.not_mem_nil, or_false] at hq
            rcases hq with rfl | rfl
            · intro e
              have e2 := (Nac p (.tail _ (.tail _ hp))).1
              rw [e] at e2
              rw [fra] at e2
              cases e2
            · exact Nat.ne_of_lt (allLt_mem hKa.2 p hp)) hown hnw hap
          clear Fac Nac Nad hka
          repeat' (first | (k_unfold; (try dsimp only)) | ((fail_if_success (with_reducible show wpAny _ _ (getMethod (Value.ref _) (Str.ofString "items") _) _ _ _)); (fail_if_success (with_reducible show wpAny _ _ (getMethod (Value.ref _) (Str.ofString "values") _) _ _ _)); (fail_if_success (with_reducible show wpAny _ _ (call (Value.builtin "dict.items") _) _ _ _)); (fail_if_success (with_reducible show wpAny _ _ (call (Value.builtin "dict.values") _) _ _ _)); (fail_if_success (with_reducible show wpAny _ _ (compareOp CmpOp.In (Value.ref _) (Value.ref _)) _ _ _)); (fail_if_success (with_reducible show wpAny _ _ (setItem (Value.ref _) (Value.ref _) _) _ _ _)); (fail_if_success (with_reducible show wpAny _ _ (subscriptTail _ _ (Value.ref _) (Value.ref _)) _ _ _)); (fail_if_success (with_reducible show wpAny _ _ (eval (Expr.Name (Str.ofString "k") _) (compEnvC _ _ _ _)) _ _ _)); (fail_if_success (with_reducible show wpAny _ _ (call (Value.builtin "list.append") _ _) _ _ _)); (fail_if_success (with_reducible show wpAny _ _ (subscriptTail _ (Expr.Slice _ _ _ _) (Value.ref _) (Value.ref _)) _ _ _)); (fail_if_success (with_reducible show wpAny _ _ (compareOp CmpOp.NotEq (Value.ref _) (Value.ref _)) _ _ _)); (fail_if_success (with_reducible show wpAny _ _ (compareOp CmpOp.Eq (Value.ref _) (Value.ref _)) _ _ _)); (fail_if_success (with_reducible show wpAny _ _ (compareOp CmpOp.Lt (Value.ref _) (Value.ref _)) _ _ _)); (fail_if_success (with_reducible show wpAny _ _ (call (Value.type "enumerate") _ _) _ _ _)); (fail_if_success (with_reducible show wpAny _ _ (exec (Stmt.While _ _ _ _) _) _ _ _)); (fail_if_success (with_reducible show wpAny _ _ (exec (Stmt.For _ _ _ _ _) _) _ _ _)); (fail_if_success (with_reducible show wpAny _ _ (call (Value.ref _) _ _) _ _ _)); (fail_if_success (with_reducible show wpAny _ _ (eval (Expr.ListComp _ _ _ _) _) _ _ _)); (fail_if_success (with_reducible show wpAny _ _ (subscriptTail _ _ (Value.ref _) (Value.int _ _)) _ _ _)); (fail_if_success (with_reducible show wpAny _ _ (setItem (Value.ref _) (Value.int _ _) _) _ _ _)); (fail_if_success (with_reducible show TupStores _ _ _ _ _ _ _ _)); (fail_if_success (with_reducible show wpAny _ _ (call (Value.builtin "len") _ _) _ _ _)); (fail_if_success (with_reducible show wpAny _ _ (call (Value.builtin "min") _ _) _ _ _)); (fail_if_success (with_reducible show wpAny _ _ (call (Value.builtin "max") _ _) _ _ _)); (fail_if_success (with_reducible show wpAny _ _ (call (Value.type "dict") _ _) _ _ _)); (fail_if_success (with_reducible show wpAny _ _ (eval (Expr.Dict _ _ _) _) _ _ _)); walk1; (try dsimp only)))
          have hrXa : All2 (RowIn PySem.Challenge.rw_zs0001_01.row.prog w0 ([(dna, ona), (Ka, oka)] ++ imm)) refs ((ties.reverse.take i).foldl stepB (nils ds)) := hrB.mono fun v T r => r.mono fun q hq => List.mem_append_right _ hq
          obtain ⟨vrb, hvrb, drb, orb, rfl, hmrb, lrb, trb⟩ := rows_ref hrXa (k := p.1) (by rw [hRl]; omega)
          have ltb : ∀ q ∈ own ++ (D32, oB) :: (D31, oT) :: ([(dna, ona), (Ka, oka)] ++ imm), q.1 ≠ _ := fun q hq => Nat.ne_of_lt (Heap.lt_size (Nae q hq).1)
          refine Dict_tup_made rfl Fad Nae hbig rfl rfl (by simp) (by decide) ?_
          intro oDb Fba Nba lDb iDb
          repeat' (first | (k_unfold; (try dsimp only)) | ((fail_if_success (with_reducible show wpAny _ _ (getMethod (Value.ref _) (Str.ofString "items") _) _ _ _)); (fail_if_success (with_reducible show wpAny _ _ (getMethod (Value.ref _) (Str.ofString "values") _) _ _ _)); (fail_if_success (with_reducible show wpAny _ _ (call (Value.builtin "dict.items") _) _ _ _)); (fail_if_success (with_reducible show wpAny _ _ (call (Value.builtin "dict.values") _) _ _ _)); (fail_if_success (with_reducible show wpAny _ _ (compareOp CmpOp.In (Value.ref _) (Value.ref _)) _ _ _)); (fail_if_success (with_reducible show wpAny _ _ (setItem (Value.ref _) (Value.ref _) _) _ _ _)); (fail_if_success (with_reducible show wpAny _ _ (subscriptTail _ _ (Value.ref _) (Value.ref _)) _ _ _)); (fail_if_success (with_reducible show wpAny _ _ (eval (Expr.Name (Str.ofString "k") _) (compEnvC _ _ _ _)) _ _ _)); (fail_if_success (with_reducible show wpAny _ _ (call (Value.builtin "list.append") _ _) _ _ _)); (fail_if_success (with_reducible show wpAny _ _ (subscriptTail _ (Expr.Slice _ _ _ _) (Value.ref _) (Value.ref _)) _ _ _)); (fail_if_success (with_reducible show wpAny _ _ (compareOp CmpOp.NotEq (Value.ref _) (Value.ref _)) _ _ _)); (fail_if_success (with_reducible show wpAny _ _ (compareOp CmpOp.Eq (Value.ref _) (Value.ref _)) _ _ _)); (fail_if_success (with_reducible show wpAny _ _ (compareOp CmpOp.Lt (Value.ref _) (Value.ref _)) _ _ _)); (fail_if_success (with_reducible show wpAny _ _ (call (Value.type "enumerate") _ _) _ _ _)); (fail_if_success (with_reducible show wpAny _ _ (exec (Stmt.While _ _ _ _) _) _ _ _)); (fail_if_success (with_reducible show wpAny _ _ (exec (Stmt.For _ _ _ _ _) _) _ _ _)); (fail_if_success (with_reducible show wpAny _ _ (call (Value.ref _) _ _) _ _ _)); (fail_if_success (with_reducible show wpAny _ _ (eval (Expr.ListComp _ _ _ _) _) _ _ _)); (fail_if_success (with_reducible show wpAny _ _ (subscriptTail _ _ (Value.ref _) (Value.int _ _)) _ _ _)); (fail_if_success (with_reducible show wpAny _ _ (setItem (Value.ref _) (Value.int _ _) _) _ _ _)); (fail_if_success (with_reducible show TupStores _ _ _ _ _ _ _ _)); (fail_if_success (with_reducible show wpAny _ _ (call (Value.builtin "len") _ _) _ _ _)); (fail_if_success (with_reducible show wpAny _ _ (call (Value.builtin "min") _ _) _ _ _)); (fail_if_success (with_reducible show wpAny _ _ (call (Value.builtin "max") _ _) _ _ _)); (fail_if_success (with_reducible show wpAny _ _ (call (Value.type "dict") _ _) _ _ _)); (fail_if_success (with_reducible show wpAny _ _ (eval (Expr.Dict _ _ _) _) _ _ _)); walk1; (try dsimp only)))
          rename Fr _ _ _ _ => Fbb
          rename News _ _ _ _ => Nbb
          rename_i Kb _ hKb
          dsimp only at Nbb lDb
          obtain ⟨okb, hokb, Nbb⟩ := split_key (ks := kf p.2) (prog := PySem.Challenge.rw_zs0001_01.row.prog) (w := w0) Nbb ⟨rfl, _, _, rfl, key_items⟩
          refine store_one (KP := KeyIn PySem.Challenge.rw_zs0001_01.row.prog w0 ((Kb, okb) :: ([(dna, ona), (Ka, oka)] ++ imm))) (k := kf p.2) (own := [(Kb, okb)]) (un_law0 _) Fbb Nbb (fun q hq => by rw [List.mem_singleton.mp hq]; exact Nat.ne_of_gt hKb.1) ltb (tab_new iDb)
            (fun ks b k => k.key (fun q hq => Nbb q (by
              rcases List.mem_cons.mp hq with rfl | hq
              · exact .head _
              · exact .tail _ (.tail _ (List.mem_append_right _ (.tail _ (.tail _ hq))))))) ⟨okb, .head _, hokb⟩ ?_
          intro hbc tkbc odb Fbc Nbc tdb
          clear Fbb Nbb
          repeat' (first | (k_unfold; (try dsimp only)) | ((fail_if_success (with_reducible show wpAny _ _ (getMethod (Value.ref _) (Str.ofString "items") _) _ _ _)); (fail_if_success (with_reducible show wpAny _ _ (getMethod (Value.ref _) (Str.ofString "values") _) _ _ _)); (fail_if_success (with_reducible show wpAny _ _ (call (Value.builtin "dict.items") _) _ _ _)); (fail_if_success (with_reducible show wpAny _ _ (call (Value.builtin "dict.values") _) _ _ _)); (fail_if_success (with_reducible show wpAny _ _ (compareOp CmpOp.In (Value.ref _) (Value.ref _)) _ _ _)); (fail_if_success (with_reducible show wpAny _ _ (setItem (Value.ref _) (Value.ref _) _) _ _ _)); (fail_if_success (with_reducible show wpAny _ _ (subscriptTail _ _ (Value.ref _) (Value.ref _)) _ _ _)); (fail_if_success (with_reducible show wpAny _ _ (eval (Expr.Name (Str.ofString "k") _) (compEnvC _ _ _ _)) _ _ _)); (fail_if_success (with_reducible show wpAny _ _ (call (Value.builtin "list.append") _ _) _ _ _)); (fail_if_success (with_reducible show wpAny _ _ (subscriptTail _ (Expr.Slice _ _ _ _) (Value.ref _) (Value.ref _)) _ _ _)); (fail_if_success (with_reducible show wpAny _ _ (compareOp CmpOp.NotEq (Value.ref _) (Value.ref _)) _ _ _)); (fail_if_success (with_reducible show wpAny _ _ (compareOp CmpOp.Eq (Value.ref _) (Value.ref _)) _ _ _)); (fail_if_success (with_reducible show wpAny _ _ (compareOp CmpOp.Lt (Value.ref _) (Value.ref _)) _ _ _)); (fail_if_success (with_reducible show wpAny _ _ (call (Value.type "enumerate") _ _) _ _ _)); (fail_if_success (with_reducible show wpAny _ _ (exec (Stmt.While _ _ _ _) _) _ _ _)); (fail_if_success (with_reducible show wpAny _ _ (exec (Stmt.For _ _ _ _ _) _) _ _ _)); (fail_if_success (with_reducible show wpAny _ _ (call (Value.ref _) _ _) _ _ _)); (fail_if_success (with_reducible show wpAny _ _ (eval (Expr.ListComp _ _ _ _) _) _ _ _)); (fail_if_success (with_reducible show wpAny _ _ (subscriptTail _ _ (Value.ref _) (Value.int _ _)) _ _ _)); (fail_if_success (with_reducible show wpAny _ _ (setItem (Value.ref _) (Value.int _ _) _) _ _ _)); (fail_if_success (with_reducible show TupStores _ _ _ _ _ _ _ _)); (fail_if_success (with_reducible show wpAny _ _ (call (Value.builtin "len") _ _) _ _ _)); (fail_if_success (with_reducible show wpAny _ _ (call (Value.builtin "min") _ _) _ _ _)); (fail_if_success (with_reducible show wpAny _ _ (call (Value.builtin "max") _ _) _ _ _)); (fail_if_success (with_reducible show wpAny _ _ (call (Value.type "dict") _ _) _ _ _)); (fail_if_success (with_reducible show wpAny _ _ (eval (Expr.Dict _ _ _) _) _ _ _)); walk1; (try dsimp only)))
          refine list_at (hoB.list Nbc (.tail _ (.tail _ (List.mem_append_right _ (.head _))))) hpr.1.1 (by omega) hvrb ?_
          repeat' (first | (k_unfold; (try dsimp only)) | ((fail_if_success (with_reducible show wpAny _ _ (getMethod (Value.ref _) (Str.ofString "items") _) _ _ _)); (fail_if_success (with_reducible show wpAny _ _ (getMethod (Value.ref _) (Str.ofString "values") _) _ _ _)); (fail_if_success (with_reducible show wpAny _ _ (call (Value.builtin "dict.items") _) _ _ _)); (fail_if_success (with_reducible show wpAny _ _ (call (Value.builtin "dict.values") _) _ _ _)); (fail_if_success (with_reducible show wpAny _ _ (compareOp CmpOp.In (Value.ref _) (Value.ref _)) _ _ _)); (fail_if_success (with_reducible show wpAny _ _ (setItem (Value.ref _) (Value.ref _) _) _ _ _)); (fail_if_success (with_reducible show wpAny _ _ (subscriptTail _ _ (Value.ref _) (Value.ref _)) _ _ _)); (fail_if_success (with_reducible show wpAny _ _ (eval (Expr.Name (Str.ofString "k") _) (compEnvC _ _ _ _)) _ _ _)); (fail_if_success (with_reducible show wpAny _ _ (call (Value.builtin "list.append") _ _) _ _ _)); (fail_if_success (with_reducible show wpAny _ _ (subscriptTail _ (Expr.Slice _ _ _ _) (Value.ref _) (Value.ref _)) _ _ _)); (fail_if_success (with_reducible show wpAny _ _ (compareOp CmpOp.NotEq (Value.ref _) (Value.ref _)) _ _ _)); (fail_if_success (with_reducible show wpAny _ _ (compareOp CmpOp.Eq (Value.ref _) (Value.ref _)) _ _ _)); (fail_if_success (with_reducible show wpAny _ _ (compareOp CmpOp.Lt (Value.ref _) (Value.ref _)) _ _ _)); (fail_if_success (with_reducible show wpAny _ _ (call (Value.type "enumerate") _ _) _ _ _)); (fail_if_success (with_reducible show wpAny _ _ (exec (Stmt.While _ _ _ _) _) _ _ _)); (fail_if_success (with_reducible show wpAny _ _ (exec (Stmt.For _ _ _ _ _) _) _ _ _)); (fail_if_success (with_reducible show wpAny _ _ (call (Value.ref _) _ _) _ _ _)); (fail_if_success (with_reducible show wpAny _ _ (eval (Expr.ListComp _ _ _ _) _) _ _ _)); (fail_if_success (with_reducible show wpAny _ _ (subscriptTail _ _ (Value.ref _) (Value.int _ _)) _ _ _)); (fail_if_success (with_reducible show wpAny _ _ (setItem (Value.ref _) (Value.int _ _) _) _ _ _)); (fail_if_success (with_reducible show TupStores _ _ _ _ _ _ _ _)); (fail_if_success (with_reducible show wpAny _ _ (call (Value.builtin "len") _ _) _ _ _)); (fail_if_success (with_reducible show wpAny _ _ (call (Value.builtin "min") _ _) _ _ _)); (fail_if_success (with_reducible show wpAny _ _ (call (Value.builtin "max") _ _) _ _ _)); (fail_if_success (with_reducible show wpAny _ _ (call (Value.type "dict") _ _) _ _ _)); (fail_if_success (with_reducible show wpAny _ _ (eval (Expr.Dict _ _ _) _) _ _ _)); walk1; (try dsimp only)))
          have hkb : News _ _ _ ((Kb, okb) :: ([(dna, ona), (Ka, oka)] ++ imm)) := fun q hq => Nbc q (by
            rcases List.mem_cons.mp hq with rfl | hq
            · exact .head _
            · exact .tail _ (.tail _ (List.mem_append_right _ (.tail _ (.tail _ hq)))))
          refine add_spec (KP := KeyIn PySem.Challenge.rw_zs0001_01.row.prog w0 ((Kb, okb) :: ([(dna, ona), (Ka, oka)] ++ imm))) (X0.keeps Fbc.keep) (T0.keeps Fbc.keep) (by decide) (by decide) (fun ks b k => k.key hkb) (Nbc (_, odb) (.tail _ (.head _))).1 (Nbc (drb, orb) (.tail _ (.tail _ (List.mem_append_right _ (.tail _ (.tail _ hmrb)))))).1 lDb lrb tdb (trb.mono fun _ _ k => k.mono fun q hq => .tail _ hq) (by
            have hl1 := foldB_le ds (ties.reverse.take i) p.1
            have hl2 : (ties.take i).length ≤ ties.length := by rw [List.length_take]; omega
            have hl3 : (ties.reverse.take i).length ≤ ties.length := by rw [List.length_take, List.length_reverse]; omega
            simp only [List.length_cons, List.length_nil, sizeLine_eq]
            omega) ?_
          intro hbd tkbd dnb onb upb frb lnb hob tnb
          have Fbd := Fbc.keeps upb
          have hnb := fresh_of Fbc frb
          have Nbd : News _ _ _ ([(dnb, onb), (Kb, okb)] ++ (own ++ (D32, oB) :: (D31, oT) :: ([(dna, ona), (Ka, oka)] ++ imm))) := news_cons hob hnb.1 hnb.2 (News.keeps (fun q hq => Nbc q (by
            rcases List.mem_cons.mp hq with rfl | hq
            · exact .head _
            · exact .tail _ (.tail _ hq))) upb)
          obtain ⟨Nbe, hnwb, hapb⟩ := loop_new Nbd (by
            intro q hq p hp
            simp only [List.mem_cons, List.not_mem_nil, or_false] at hq
            rcases hq with rfl | rfl
            · intro e
              have e2 := (Nbc p (.tail _ (.tail _ hp))).1
              rw [e] at e2
              rw [frb] at e2
              cases e2
            · exact Nat.ne_of_lt (allLt_mem hKb.2 p hp)) hown hnwa hapa
          clear Fbc Nbc Nbd hkb
          repeat' (first | (k_unfold; (try dsimp only)) | ((fail_if_success (with_reducible show wpAny _ _ (getMethod (Value.ref _) (Str.ofString "items") _) _ _ _)); (fail_if_success (with_reducible show wpAny _ _ (getMethod (Value.ref _) (Str.ofString "values") _) _ _ _)); (fail_if_success (with_reducible show wpAny _ _ (call (Value.builtin "dict.items") _) _ _ _)); (fail_if_success (with_reducible show wpAny _ _ (call (Value.builtin "dict.values") _) _ _ _)); (fail_if_success (with_reducible show wpAny _ _ (compareOp CmpOp.In (Value.ref _) (Value.ref _)) _ _ _)); (fail_if_success (with_reducible show wpAny _ _ (setItem (Value.ref _) (Value.ref _) _) _ _ _)); (fail_if_success (with_reducible show wpAny _ _ (subscriptTail _ _ (Value.ref _) (Value.ref _)) _ _ _)); (fail_if_success (with_reducible show wpAny _ _ (eval (Expr.Name (Str.ofString "k") _) (compEnvC _ _ _ _)) _ _ _)); (fail_if_success (with_reducible show wpAny _ _ (call (Value.builtin "list.append") _ _) _ _ _)); (fail_if_success (with_reducible show wpAny _ _ (subscriptTail _ (Expr.Slice _ _ _ _) (Value.ref _) (Value.ref _)) _ _ _)); (fail_if_success (with_reducible show wpAny _ _ (compareOp CmpOp.NotEq (Value.ref _) (Value.ref _)) _ _ _)); (fail_if_success (with_reducible show wpAny _ _ (compareOp CmpOp.Eq (Value.ref _) (Value.ref _)) _ _ _)); (fail_if_success (with_reducible show wpAny _ _ (compareOp CmpOp.Lt (Value.ref _) (Value.ref _)) _ _ _)); (fail_if_success (with_reducible show wpAny _ _ (call (Value.type "enumerate") _ _) _ _ _)); (fail_if_success (with_reducible show wpAny _ _ (exec (Stmt.While _ _ _ _) _) _ _ _)); (fail_if_success (with_reducible show wpAny _ _ (exec (Stmt.For _ _ _ _ _) _) _ _ _)); (fail_if_success (with_reducible show wpAny _ _ (call (Value.ref _) _ _) _ _ _)); (fail_if_success (with_reducible show wpAny _ _ (eval (Expr.ListComp _ _ _ _) _) _ _ _)); (fail_if_success (with_reducible show wpAny _ _ (subscriptTail _ _ (Value.ref _) (Value.int _ _)) _ _ _)); (fail_if_success (with_reducible show wpAny _ _ (setItem (Value.ref _) (Value.int _ _) _) _ _ _)); (fail_if_success (with_reducible show TupStores _ _ _ _ _ _ _ _)); (fail_if_success (with_reducible show wpAny _ _ (call (Value.builtin "len") _ _) _ _ _)); (fail_if_success (with_reducible show wpAny _ _ (call (Value.builtin "min") _ _) _ _ _)); (fail_if_success (with_reducible show wpAny _ _ (call (Value.builtin "max") _ _) _ _ _)); (fail_if_success (with_reducible show wpAny _ _ (call (Value.type "dict") _ _) _ _ _)); (fail_if_success (with_reducible show wpAny _ _ (eval (Expr.Dict _ _ _) _) _ _ _)); walk1; (try dsimp only)))
          rename Fr _ _ _ _ => F50
          rename News _ _ _ _ => N50
          rename_i T50 _ hT50 _
          have hrl : refs.length = ds.length := by rw [hrXa.length]; exact hRl
          have hap50 : ∀ q ∈ (D31, oT) :: ([(dnb, onb), (Kb, okb)] ++ ([(dna, ona), (Ka, oka)] ++ imm)), q.1 ≠ D32 := fun q hq => by
            rcases List.mem_cons.mp hq with rfl | hq
            · exact hne3
            · exact (hapb q hq).1
          refine list_set (own := (T50, _) :: own) F50 N50 (fun q hq => by
            rcases List.mem_cons.mp hq with rfl | hq
            · exact Nat.ne_of_gt (hT50 (D32, oB) (List.mem_append_right _ (.head _)))
            · exact hoff q hq D32 (.head _)) hap50 hoB hpr.2.1 (by rw [hrl]; exact hpr.2.2) (by omega) ?_
          intro h51 tk51 o51 F51 N51 hl51
          clear F50 N50
          repeat' (first | (k_unfold; (try dsimp only)) | ((fail_if_success (with_reducible show wpAny _ _ (getMethod (Value.ref _) (Str.ofString "items") _) _ _ _)); (fail_if_success (with_reducible show wpAny _ _ (getMethod (Value.ref _) (Str.ofString "values") _) _ _ _)); (fail_if_success (with_reducible show wpAny _ _ (call (Value.builtin "dict.items") _) _ _ _)); (fail_if_success (with_reducible show wpAny _ _ (call (Value.builtin "dict.values") _) _ _ _)); (fail_if_success (with_reducible show wpAny _ _ (compareOp CmpOp.In (Value.ref _) (Value.ref _)) _ _ _)); (fail_if_success (with_reducible show wpAny _ _ (setItem (Value.ref _) (Value.ref _) _) _ _ _)); (fail_if_success (with_reducible show wpAny _ _ (subscriptTail _ _ (Value.ref _) (Value.ref _)) _ _ _)); (fail_if_success (with_reducible show wpAny _ _ (eval (Expr.Name (Str.ofString "k") _) (compEnvC _ _ _ _)) _ _ _)); (fail_if_success (with_reducible show wpAny _ _ (call (Value.builtin "list.append") _ _) _ _ _)); (fail_if_success (with_reducible show wpAny _ _ (subscriptTail _ (Expr.Slice _ _ _ _) (Value.ref _) (Value.ref _)) _ _ _)); (fail_if_success (with_reducible show wpAny _ _ (compareOp CmpOp.NotEq (Value.ref _) (Value.ref _)) _ _ _)); (fail_if_success (with_reducible show wpAny _ _ (compareOp CmpOp.Eq (Value.ref _) (Value.ref _)) _ _ _)); (fail_if_success (with_reducible show wpAny _ _ (compareOp CmpOp.Lt (Value.ref _) (Value.ref _)) _ _ _)); (fail_if_success (with_reducible show wpAny _ _ (call (Value.type "enumerate") _ _) _ _ _)); (fail_if_success (with_reducible show wpAny _ _ (exec (Stmt.While _ _ _ _) _) _ _ _)); (fail_if_success (with_reducible show wpAny _ _ (exec (Stmt.For _ _ _ _ _) _) _ _ _)); (fail_if_success (with_reducible show wpAny _ _ (call (Value.ref _) _ _) _ _ _)); (fail_if_success (with_reducible show wpAny _ _ (eval (Expr.ListComp _ _ _ _) _) _ _ _)); (fail_if_success (with_reducible show wpAny _ _ (subscriptTail _ _ (Value.ref _) (Value.int _ _)) _ _ _)); (fail_if_success (with_reducible show wpAny _ _ (setItem (Value.ref _) (Value.int _ _) _) _ _ _)); (fail_if_success (with_reducible show TupStores _ _ _ _ _ _ _ _)); (fail_if_success (with_reducible show wpAny _ _ (call (Value.builtin "len") _ _) _ _ _)); (fail_if_success (with_reducible show wpAny _ _ (call (Value.builtin "min") _ _) _ _ _)); (fail_if_success (with_reducible show wpAny _ _ (call (Value.builtin "max") _ _) _ _ _)); (fail_if_success (with_reducible show wpAny _ _ (call (Value.type "dict") _ _) _ _ _)); (fail_if_success (with_reducible show wpAny _ _ (eval (Expr.Dict _ _ _) _) _ _ _)); walk1; (try dsimp only)))
          refine list_set (own := (T50, _) :: own) F51 N51 (fun q hq => by
            rcases List.mem_cons.mp hq with rfl | hq
            · exact Nat.ne_of_gt (hT50 (D32, oB) (List.mem_append_right _ (.head _)))
            · exact hoff q hq D32 (.head _)) hap50 hl51 hpr.1.1 (by rw [List.length_set, hrl]; exact hpr.1.2) (by rw [List.length_set]; omega) ?_
          intro h52 tk52 o52 F52 N52 hl52
          clear F51 N51
          repeat' (first | (k_unfold; (try dsimp only)) | ((fail_if_success (with_reducible show wpAny _ _ (getMethod (Value.ref _) (Str.ofString "items") _) _ _ _)); (fail_if_success (with_reducible show wpAny _ _ (getMethod (Value.ref _) (Str.ofString "values") _) _ _ _)); (fail_if_success (with_reducible show wpAny _ _ (call (Value.builtin "dict.items") _) _ _ _)); (fail_if_success (with_reducible show wpAny _ _ (call (Value.builtin "dict.values") _) _ _ _)); (fail_if_success (with_reducible show wpAny _ _ (compareOp CmpOp.In (Value.ref _) (Value.ref _)) _ _ _)); (fail_if_success (with_reducible show wpAny _ _ (setItem (Value.ref _) (Value.ref _) _) _ _ _)); (fail_if_success (with_reducible show wpAny _ _ (subscriptTail _ _ (Value.ref _) (Value.ref _)) _ _ _)); (fail_if_success (with_reducible show wpAny _ _ (eval (Expr.Name (Str.ofString "k") _) (compEnvC _ _ _ _)) _ _ _)); (fail_if_success (with_reducible show wpAny _ _ (call (Value.builtin "list.append") _ _) _ _ _)); (fail_if_success (with_reducible show wpAny _ _ (subscriptTail _ (Expr.Slice _ _ _ _) (Value.ref _) (Value.ref _)) _ _ _)); (fail_if_success (with_reducible show wpAny _ _ (compareOp CmpOp.NotEq (Value.ref _) (Value.ref _)) _ _ _)); (fail_if_success (with_reducible show wpAny _ _ (compareOp CmpOp.Eq (Value.ref _) (Value.ref _)) _ _ _)); (fail_if_success (with_reducible show wpAny _ _ (compareOp CmpOp.Lt (Value.ref _) (Value.ref _)) _ _ _)); (fail_if_success (with_reducible show wpAny _ _ (call (Value.type "enumerate") _ _) _ _ _)); (fail_if_success (with_reducible show wpAny _ _ (exec (Stmt.While _ _ _ _) _) _ _ _)); (fail_if_success (with_reducible show wpAny _ _ (exec (Stmt.For _ _ _ _ _) _) _ _ _)); (fail_if_success (with_reducible show wpAny _ _ (call (Value.ref _) _ _) _ _ _)); (fail_if_success (with_reducible show wpAny _ _ (eval (Expr.ListComp _ _ _ _) _) _ _ _)); (fail_if_success (with_reducible show wpAny _ _ (subscriptTail _ _ (Value.ref _) (Value.int _ _)) _ _ _)); (fail_if_success (with_reducible show wpAny _ _ (setItem (Value.ref _) (Value.int _ _) _) _ _ _)); (fail_if_success (with_reducible show TupStores _ _ _ _ _ _ _ _)); (fail_if_success (with_reducible show wpAny _ _ (call (Value.builtin "len") _ _) _ _ _)); (fail_if_success (with_reducible show wpAny _ _ (call (Value.builtin "min") _ _) _ _ _)); (fail_if_success (with_reducible show wpAny _ _ (call (Value.builtin "max") _ _) _ _ _)); (fail_if_success (with_reducible show wpAny _ _ (call (Value.type "dict") _ _) _ _ _)); (fail_if_success (with_reducible show wpAny _ _ (eval (Expr.Dict _ _ _) _) _ _ _)); walk1; (try dsimp only)))
          refine' TurnQ.intro F52 (nx := (D32, o52) :: (D31, oT) :: ([(dnb, onb), (Kb, okb)] ++ ([(dna, ona), (Ka, oka)] ++ imm))) (fun q hq => N52 q (.tail _ hq)) ?_ ⟨_, _, _, ([(dnb, onb), (Kb, okb)] ++ ([(dna, ona), (Ka, oka)] ++ imm)), _, _, _, rfl, hl52, hoT, hapb, ?_, ?_, ?_, ?meq⟩
          case meq =>
            (funext y; first | rfl | ((try dsimp only); by_cases hh0 : y = (Str.ofString "two"); (· subst hh0; rfl); by_cases hh1 : y = (Str.ofString "one"); (· subst hh1; rfl); by_cases hh2 : y = (Str.ofString "there"); (· subst hh2; rfl); by_cases hh3 : y = (Str.ofString "back"); (· subst hh3; rfl); by_cases hh4 : y = (Str.ofString "full"); (· subst hh4; rfl); by_cases hh5 : y = (Str.ofString "ties"); (· subst hh5; rfl); by_cases hh6 : y = (Str.ofString "degrees"); (· subst hh6; rfl); simp only [hh0, hh1, hh2, hh3, hh4, hh5, hh6, if_false]))
          · intro q hq
            rcases List.mem_cons.mp hq with rfl | hq
            · exact hnwb (D32, oB) (.head _)
            · exact hnwb q (.tail _ hq)
          · exact fun q hq => List.mem_append_right _ (List.mem_append_right _ (hsub q hq))
          · rw [fold_take_succ _ _ _ _ _ hp]
            exact (All2.set (hrXa.mono fun v T r => r.mono fun q hq => List.mem_append_right _ hq) ⟨dna, ona, rfl, List.mem_append_right _ (.head _), lna, tna.mono fun _ _ k => k.mono fun q hq => List.mem_append_right _ (.tail _ hq)⟩ _).set ⟨dnb, onb, rfl, .head _, lnb, tnb.mono fun _ _ k => k.mono fun q hq => .tail _ hq⟩ _
          · exact hrT.mono fun v T r => r.mono fun q hq => List.mem_append_right _ (List.mem_append_right _ hq)
        rintro h70 tk70 m70 nx70 F70 N70 ⟨refsB, oT, oB, imm2, u1, u2, u3, rfl, hoB, hoT, hap3, hsub3, hrB3, hrT3, rfl⟩
        rw [List.length_reverse, hil, List.take_of_length_le (by simp)] at hrB3
        replace hrB3 : All2 (RowIn PySem.Challenge.rw_zs0001_01.row.prog w0 imm2) refsB (backR ds ties) := hrB3
        dsimp only [envOf] at F70 N70
        clear hrT2 hrB2 hap2 hsub2 N62 F61
        repeat' (first | (k_unfold; (try dsimp only)) | ((fail_if_success (with_reducible show wpAny _ _ (getMethod (Value.ref _) (Str.ofString "items") _) _ _ _)); (fail_if_success (with_reducible show wpAny _ _ (getMethod (Value.ref _) (Str.ofString "values") _) _ _ _)); (fail_if_success (with_reducible show wpAny _ _ (call (Value.builtin "dict.items") _) _ _ _)); (fail_if_success (with_reducible show wpAny _ _ (call (Value.builtin "dict.values") _) _ _ _)); (fail_if_success (with_reducible show wpAny _ _ (compareOp CmpOp.In (Value.ref _) (Value.ref _)) _ _ _)); (fail_if_success (with_reducible show wpAny _ _ (setItem (Value.ref _) (Value.ref _) _) _ _ _)); (fail_if_success (with_reducible show wpAny _ _ (subscriptTail _ _ (Value.ref _) (Value.ref _)) _ _ _)); (fail_if_success (with_reducible show wpAny _ _ (eval (Expr.Name (Str.ofString "k") _) (compEnvC _ _ _ _)) _ _ _)); (fail_if_success (with_reducible show wpAny _ _ (call (Value.builtin "list.append") _ _) _ _ _)); (fail_if_success (with_reducible show wpAny _ _ (subscriptTail _ (Expr.Slice _ _ _ _) (Value.ref _) (Value.ref _)) _ _ _)); (fail_if_success (with_reducible show wpAny _ _ (compareOp CmpOp.NotEq (Value.ref _) (Value.ref _)) _ _ _)); (fail_if_success (with_reducible show wpAny _ _ (compareOp CmpOp.Eq (Value.ref _) (Value.ref _)) _ _ _)); (fail_if_success (with_reducible show wpAny _ _ (compareOp CmpOp.Lt (Value.ref _) (Value.ref _)) _ _ _)); (fail_if_success (with_reducible show wpAny _ _ (call (Value.type "enumerate") _ _) _ _ _)); (fail_if_success (with_reducible show wpAny _ _ (exec (Stmt.While _ _ _ _) _) _ _ _)); (fail_if_success (with_reducible show wpAny _ _ (exec (Stmt.For _ _ _ _ _) _) _ _ _)); (fail_if_success (with_reducible show wpAny _ _ (call (Value.ref _) _ _) _ _ _)); (fail_if_success (with_reducible show wpAny _ _ (eval (Expr.ListComp _ _ _ _) _) _ _ _)); (fail_if_success (with_reducible show wpAny _ _ (subscriptTail _ _ (Value.ref _) (Value.int _ _)) _ _ _)); (fail_if_success (with_reducible show wpAny _ _ (setItem (Value.ref _) (Value.int _ _) _) _ _ _)); (fail_if_success (with_reducible show TupStores _ _ _ _ _ _ _ _)); (fail_if_success (with_reducible show wpAny _ _ (call (Value.builtin "len") _ _) _ _ _)); (fail_if_success (with_reducible show wpAny _ _ (call (Value.builtin "min") _ _) _ _ _)); (fail_if_success (with_reducible show wpAny _ _ (call (Value.builtin "max") _ _) _ _ _)); (fail_if_success (with_reducible show wpAny _ _ (call (Value.type "dict") _ _) _ _ _)); (fail_if_success (with_reducible show wpAny _ _ (eval (Expr.Dict _ _ _) _) _ _ _)); walk1; (try dsimp only)))
        have Nim3 : News _ _ _ imm2 := fun q hq => N70 q (.tail _ (.tail _ hq))
        refine rows_same Nim3 (hoT.list N70 (.tail _ (.head _))) (hoB.list N70 (.head _)) hrT3 hrB3 (p_same hds htd) (un_law0 _) (un_in1 _) ?_
        repeat' (first | (k_unfold; (try dsimp only)) | ((fail_if_success (with_reducible show wpAny _ _ (getMethod (Value.ref _) (Str.ofString "items") _) _ _ _)); (fail_if_success (with_reducible show wpAny _ _ (getMethod (Value.ref _) (Str.ofString "values") _) _ _ _)); (fail_if_success (with_reducible show wpAny _ _ (call (Value.builtin "dict.items") _) _ _ _)); (fail_if_success (with_reducible show wpAny _ _ (call (Value.builtin "dict.values") _) _ _ _)); (fail_if_success (with_reducible show wpAny _ _ (compareOp CmpOp.In (Value.ref _) (Value.ref _)) _ _ _)); (fail_if_success (with_reducible show wpAny _ _ (setItem (Value.ref _) (Value.ref _) _) _ _ _)); (fail_if_success (with_reducible show wpAny _ _ (subscriptTail _ _ (Value.ref _) (Value.ref _)) _ _ _)); (fail_if_success (with_reducible show wpAny _ _ (eval (Expr.Name (Str.ofString "k") _) (compEnvC _ _ _ _)) _ _ _)); (fail_if_success (with_reducible show wpAny _ _ (call (Value.builtin "list.append") _ _) _ _ _)); (fail_if_success (with_reducible show wpAny _ _ (subscriptTail _ (Expr.Slice _ _ _ _) (Value.ref _) (Value.ref _)) _ _ _)); (fail_if_success (with_reducible show wpAny _ _ (compareOp CmpOp.NotEq (Value.ref _) (Value.ref _)) _ _ _)); (fail_if_success (with_reducible show wpAny _ _ (compareOp CmpOp.Eq (Value.ref _) (Value.ref _)) _ _ _)); (fail_if_success (with_reducible show wpAny _ _ (compareOp CmpOp.Lt (Value.ref _) (Value.ref _)) _ _ _)); (fail_if_success (with_reducible show wpAny _ _ (call (Value.type "enumerate") _ _) _ _ _)); (fail_if_success (with_reducible show wpAny _ _ (exec (Stmt.While _ _ _ _) _) _ _ _)); (fail_if_success (with_reducible show wpAny _ _ (exec (Stmt.For _ _ _ _ _) _) _ _ _)); (fail_if_success (with_reducible show wpAny _ _ (call (Value.ref _) _ _) _ _ _)); (fail_if_success (with_reducible show wpAny _ _ (eval (Expr.ListComp _ _ _ _) _) _ _ _)); (fail_if_success (with_reducible show wpAny _ _ (subscriptTail _ _ (Value.ref _) (Value.int _ _)) _ _ _)); (fail_if_success (with_reducible show wpAny _ _ (setItem (Value.ref _) (Value.int _ _) _) _ _ _)); (fail_if_success (with_reducible show TupStores _ _ _ _ _ _ _ _)); (fail_if_success (with_reducible show wpAny _ _ (call (Value.builtin "len") _ _) _ _ _)); (fail_if_success (with_reducible show wpAny _ _ (call (Value.builtin "min") _ _) _ _ _)); (fail_if_success (with_reducible show wpAny _ _ (call (Value.builtin "max") _ _) _ _ _)); (fail_if_success (with_reducible show wpAny _ _ (call (Value.type "dict") _ _) _ _ _)); (fail_if_success (with_reducible show wpAny _ _ (eval (Expr.Dict _ _ _) _) _ _ _)); walk1; (try dsimp only)))
        refine my_comp (cl := []) (by with_unfolding_all rfl) (by rfl) (by decide) ?_
        repeat' (first | (k_unfold; (try dsimp only)) | ((fail_if_success (with_reducible show wpAny _ _ (getMethod (Value.ref _) (Str.ofString "items") _) _ _ _)); (fail_if_success (with_reducible show wpAny _ _ (getMethod (Value.ref _) (Str.ofString "values") _) _ _ _)); (fail_if_success (with_reducible show wpAny _ _ (call (Value.builtin "dict.items") _) _ _ _)); (fail_if_success (with_reducible show wpAny _ _ (call (Value.builtin "dict.values") _) _ _ _)); (fail_if_success (with_reducible show wpAny _ _ (compareOp CmpOp.In (Value.ref _) (Value.ref _)) _ _ _)); (fail_if_success (with_reducible show wpAny _ _ (setItem (Value.ref _) (Value.ref _) _) _ _ _)); (fail_if_success (with_reducible show wpAny _ _ (subscriptTail _ _ (Value.ref _) (Value.ref _)) _ _ _)); (fail_if_success (with_reducible show wpAny _ _ (eval (Expr.Name (Str.ofString "k") _) (compEnvC _ _ _ _)) _ _ _)); (fail_if_success (with_reducible show wpAny _ _ (call (Value.builtin "list.append") _ _) _ _ _)); (fail_if_success (with_reducible show wpAny _ _ (subscriptTail _ (Expr.Slice _ _ _ _) (Value.ref _) (Value.ref _)) _ _ _)); (fail_if_success (with_reducible show wpAny _ _ (compareOp CmpOp.NotEq (Value.ref _) (Value.ref _)) _ _ _)); (fail_if_success (with_reducible show wpAny _ _ (compareOp CmpOp.Eq (Value.ref _) (Value.ref _)) _ _ _)); (fail_if_success (with_reducible show wpAny _ _ (compareOp CmpOp.Lt (Value.ref _) (Value.ref _)) _ _ _)); (fail_if_success (with_reducible show wpAny _ _ (call (Value.type "enumerate") _ _) _ _ _)); (fail_if_success (with_reducible show wpAny _ _ (exec (Stmt.While _ _ _ _) _) _ _ _)); (fail_if_success (with_reducible show wpAny _ _ (exec (Stmt.For _ _ _ _ _) _) _ _ _)); (fail_if_success (with_reducible show wpAny _ _ (call (Value.ref _) _ _) _ _ _)); (fail_if_success (with_reducible show wpAny _ _ (eval (Expr.ListComp _ _ _ _) _) _ _ _)); (fail_if_success (with_reducible show wpAny _ _ (subscriptTail _ _ (Value.ref _) (Value.int _ _)) _ _ _)); (fail_if_success (with_reducible show wpAny _ _ (setItem (Value.ref _) (Value.int _ _) _) _ _ _)); (fail_if_success (with_reducible show TupStores _ _ _ _ _ _ _ _)); (fail_if_success (with_reducible show wpAny _ _ (call (Value.builtin "len") _ _) _ _ _)); (fail_if_success (with_reducible show wpAny _ _ (call (Value.builtin "min") _ _) _ _ _)); (fail_if_success (with_reducible show wpAny _ _ (call (Value.builtin "max") _ _) _ _ _)); (fail_if_success (with_reducible show wpAny _ _ (call (Value.type "dict") _ _) _ _ _)); (fail_if_success (with_reducible show wpAny _ _ (eval (Expr.Dict _ _ _) _) _ _ _)); walk1; (try dsimp only)))
        obtain ⟨NB, hNB⟩ : ∃ NB, NB = (D32, oB) :: (D31, oT) :: imm2 := ⟨_, rfl⟩
        rw [← hNB] at N70
        have hTm : (D31, oT) ∈ NB := by rw [hNB]; exact .tail _ (.head _)
        have hsubB : ∀ q ∈ imm2, q ∈ NB := fun q hq => by rw [hNB]; exact .tail _ (.tail _ hq)
        have hrTB : All2 (RowIn PySem.Challenge.rw_zs0001_01.row.prog w0 NB) refsT (thereR ds ties) := hrT3.mono fun v T r => r.mono hsubB
        have hal71 : (al, listOf items.toArray na) ∈ NB := hsubB _ (hsub3 _ ham)
        have hdl71 : (dl, LCg.lst vds) ∈ NB := hsubB _ (hsub3 _ hdm)
        have hrTl : refsT.length = ds.length := by rw [hrT3.length]; show (ties.foldl stepT (nils ds)).length = _; rw [foldT_len]; simp [nils]
        clear hrT3 hrB3 Nim3 hap3 hsub3 hoB hNB hsubB
        refine comp_list (vs := refsT) (fun _ => true) rfl (by decide) (by rfl) (by rfl) (hoT.list N70 hTm) (N70 _ hTm).2.1 (by rw [hrTl]; simp only [sizeLine_eq]; omega) F70 N70
          (fun j ys nx' => NB = nx' ∧ IntsAre ys (((thereR ds ties).take j).map sumT)) ⟨rfl, .nil⟩ ?_ ?_
        · rintro j v mC ys _ h71 tk71 own C oC D wr E' hv hmv hoC ⟨rfl, hys⟩ hoff hown F71 N71
          obtain ⟨T, hT, d, o, rfl, hm, l, t⟩ := hrTB.get? hv
          refine ⟨wpAny_tests_nil (CompT.intro F71 N71), (fun q => by cases q), ?_⟩
          intro h72 tk72 _ F72 N72
          clear F71 N71
          k_fold
          repeat' (first | (k_unfold; (try dsimp only)) | ((fail_if_success (with_reducible show wpAny _ _ (getMethod (Value.ref _) (Str.ofString "items") _) _ _ _)); (fail_if_success (with_reducible show wpAny _ _ (getMethod (Value.ref _) (Str.ofString "values") _) _ _ _)); (fail_if_success (with_reducible show wpAny _ _ (call (Value.builtin "dict.items") _) _ _ _)); (fail_if_success (with_reducible show wpAny _ _ (call (Value.builtin "dict.values") _) _ _ _)); (fail_if_success (with_reducible show wpAny _ _ (compareOp CmpOp.In (Value.ref _) (Value.ref _)) _ _ _)); (fail_if_success (with_reducible show wpAny _ _ (setItem (Value.ref _) (Value.ref _) _) _ _ _)); (fail_if_success (with_reducible show wpAny _ _ (subscriptTail _ _ (Value.ref _) (Value.ref _)) _ _ _)); (fail_if_success (with_reducible show wpAny _ _ (eval (Expr.Name (Str.ofString "k") _) (compEnvC _ _ _ _)) _ _ _)); (fail_if_success (with_reducible show wpAny _ _ (call (Value.builtin "list.append") _ _) _ _ _)); (fail_if_success (with_reducible show wpAny _ _ (subscriptTail _ (Expr.Slice _ _ _ _) (Value.ref _) (Value.ref _)) _ _ _)); (fail_if_success (with_reducible show wpAny _ _ (compareOp CmpOp.NotEq (Value.ref _) (Value.ref _)) _ _ _)); (fail_if_success (with_reducible show wpAny _ _ (compareOp CmpOp.Eq (Value.ref _) (Value.ref _)) _ _ _)); (fail_if_success (with_reducible show wpAny _ _ (compareOp CmpOp.Lt (Value.ref _) (Value.ref _)) _ _ _)); (fail_if_success (with_reducible show wpAny _ _ (call (Value.type "enumerate") _ _) _ _ _)); (fail_if_success (with_reducible show wpAny _ _ (exec (Stmt.While _ _ _ _) _) _ _ _)); (fail_if_success (with_reducible show wpAny _ _ (exec (Stmt.For _ _ _ _ _) _) _ _ _)); (fail_if_success (with_reducible show wpAny _ _ (call (Value.ref _) _ _) _ _ _)); (fail_if_success (with_reducible show wpAny _ _ (eval (Expr.ListComp _ _ _ _) _) _ _ _)); (fail_if_success (with_reducible show wpAny _ _ (subscriptTail _ _ (Value.ref _) (Value.int _ _)) _ _ _)); (fail_if_success (with_reducible show wpAny _ _ (setItem (Value.ref _) (Value.int _ _) _) _ _ _)); (fail_if_success (with_reducible show TupStores _ _ _ _ _ _ _ _)); (fail_if_success (with_reducible show wpAny _ _ (call (Value.builtin "len") _ _) _ _ _)); (fail_if_success (with_reducible show wpAny _ _ (call (Value.builtin "min") _ _) _ _ _)); (fail_if_success (with_reducible show wpAny _ _ (call (Value.builtin "max") _ _) _ _ _)); (fail_if_success (with_reducible show wpAny _ _ (call (Value.type "dict") _ _) _ _ _)); (fail_if_success (with_reducible show wpAny _ _ (eval (Expr.Dict _ _ _) _) _ _ _)); walk1; (try dsimp only)))
          have Nb : News _ _ _ NB := fun q hq => N72 q (List.mem_append_right _ (.tail _ (.tail _ hq)))
          refine count_spec (X0.keeps F72.keep) (T0.keeps F72.keep) (by decide) (by decide) (Nb _ hm).1 l (t.mono fun _ _ k => k.key Nb) ?_
          intro h73 tk73 tok73 up73
          have F73 := F72.keeps up73
          have N73 := N72.keeps up73
          clear F72 N72 Nb
          repeat' (first | (k_unfold; (try dsimp only)) | ((fail_if_success (with_reducible show wpAny _ _ (getMethod (Value.ref _) (Str.ofString "items") _) _ _ _)); (fail_if_success (with_reducible show wpAny _ _ (getMethod (Value.ref _) (Str.ofString "values") _) _ _ _)); (fail_if_success (with_reducible show wpAny _ _ (call (Value.builtin "dict.items") _) _ _ _)); (fail_if_success (with_reducible show wpAny _ _ (call (Value.builtin "dict.values") _) _ _ _)); (fail_if_success (with_reducible show wpAny _ _ (compareOp CmpOp.In (Value.ref _) (Value.ref _)) _ _ _)); (fail_if_success (with_reducible show wpAny _ _ (setItem (Value.ref _) (Value.ref _) _) _ _ _)); (fail_if_success (with_reducible show wpAny _ _ (subscriptTail _ _ (Value.ref _) (Value.ref _)) _ _ _)); (fail_if_success (with_reducible show wpAny _ _ (eval (Expr.Name (Str.ofString "k") _) (compEnvC _ _ _ _)) _ _ _)); (fail_if_success (with_reducible show wpAny _ _ (call (Value.builtin "list.append") _ _) _ _ _)); (fail_if_success (with_reducible show wpAny _ _ (subscriptTail _ (Expr.Slice _ _ _ _) (Value.ref _) (Value.ref _)) _ _ _)); (fail_if_success (with_reducible show wpAny _ _ (compareOp CmpOp.NotEq (Value.ref _) (Value.ref _)) _ _ _)); (fail_if_success (with_reducible show wpAny _ _ (compareOp CmpOp.Eq (Value.ref _) (Value.ref _)) _ _ _)); (fail_if_success (with_reducible show wpAny _ _ (compareOp CmpOp.Lt (Value.ref _) (Value.ref _)) _ _ _)); (fail_if_success (with_reducible show wpAny _ _ (call (Value.type "enumerate") _ _) _ _ _)); (fail_if_success (with_reducible show wpAny _ _ (exec (Stmt.While _ _ _ _) _) _ _ _)); (fail_if_success (with_reducible show wpAny _ _ (exec (Stmt.For _ _ _ _ _) _) _ _ _)); (fail_if_success (with_reducible show wpAny _ _ (call (Value.ref _) _ _) _ _ _)); (fail_if_success (with_reducible show wpAny _ _ (eval (Expr.ListComp _ _ _ _) _) _ _ _)); (fail_if_success (with_reducible show wpAny _ _ (subscriptTail _ _ (Value.ref _) (Value.int _ _)) _ _ _)); (fail_if_success (with_reducible show wpAny _ _ (setItem (Value.ref _) (Value.int _ _) _) _ _ _)); (fail_if_success (with_reducible show TupStores _ _ _ _ _ _ _ _)); (fail_if_success (with_reducible show wpAny _ _ (call (Value.builtin "len") _ _) _ _ _)); (fail_if_success (with_reducible show wpAny _ _ (call (Value.builtin "min") _ _) _ _ _)); (fail_if_success (with_reducible show wpAny _ _ (call (Value.builtin "max") _ _) _ _ _)); (fail_if_success (with_reducible show wpAny _ _ (call (Value.type "dict") _ _) _ _ _)); (fail_if_success (with_reducible show wpAny _ _ (eval (Expr.Dict _ _ _) _) _ _ _)); walk1; (try dsimp only)))
          refine CompQ.intro F73 N73 hoff ⟨rfl, ?_⟩
          have e1 : (thereR ds ties).take (j + 1) = (thereR ds ties).take j ++ [T] := by simp [List.take_add_one, hT]
          rw [e1, List.map_append]
          exact hys.append (.cons _ _ .nil)
        rintro D75 h75 tk75 ys75 _ F75 N75 hq75 ⟨rfl, hys75⟩
        rw [hrTB.length, List.take_length, p_count hds htd] at hys75
        clear F70 N70
        repeat' (first | (k_unfold; (try dsimp only)) | ((fail_if_success (with_reducible show wpAny _ _ (getMethod (Value.ref _) (Str.ofString "items") _) _ _ _)); (fail_if_success (with_reducible show wpAny _ _ (getMethod (Value.ref _) (Str.ofString "values") _) _ _ _)); (fail_if_success (with_reducible show wpAny _ _ (call (Value.builtin "dict.items") _) _ _ _)); (fail_if_success (with_reducible show wpAny _ _ (call (Value.builtin "dict.values") _) _ _ _)); (fail_if_success (with_reducible show wpAny _ _ (compareOp CmpOp.In (Value.ref _) (Value.ref _)) _ _ _)); (fail_if_success (with_reducible show wpAny _ _ (setItem (Value.ref _) (Value.ref _) _) _ _ _)); (fail_if_success (with_reducible show wpAny _ _ (subscriptTail _ _ (Value.ref _) (Value.ref _)) _ _ _)); (fail_if_success (with_reducible show wpAny _ _ (eval (Expr.Name (Str.ofString "k") _) (compEnvC _ _ _ _)) _ _ _)); (fail_if_success (with_reducible show wpAny _ _ (call (Value.builtin "list.append") _ _) _ _ _)); (fail_if_success (with_reducible show wpAny _ _ (subscriptTail _ (Expr.Slice _ _ _ _) (Value.ref _) (Value.ref _)) _ _ _)); (fail_if_success (with_reducible show wpAny _ _ (compareOp CmpOp.NotEq (Value.ref _) (Value.ref _)) _ _ _)); (fail_if_success (with_reducible show wpAny _ _ (compareOp CmpOp.Eq (Value.ref _) (Value.ref _)) _ _ _)); (fail_if_success (with_reducible show wpAny _ _ (compareOp CmpOp.Lt (Value.ref _) (Value.ref _)) _ _ _)); (fail_if_success (with_reducible show wpAny _ _ (call (Value.type "enumerate") _ _) _ _ _)); (fail_if_success (with_reducible show wpAny _ _ (exec (Stmt.While _ _ _ _) _) _ _ _)); (fail_if_success (with_reducible show wpAny _ _ (exec (Stmt.For _ _ _ _ _) _) _ _ _)); (fail_if_success (with_reducible show wpAny _ _ (call (Value.ref _) _ _) _ _ _)); (fail_if_success (with_reducible show wpAny _ _ (eval (Expr.ListComp _ _ _ _) _) _ _ _)); (fail_if_success (with_reducible show wpAny _ _ (subscriptTail _ _ (Value.ref _) (Value.int _ _)) _ _ _)); (fail_if_success (with_reducible show wpAny _ _ (setItem (Value.ref _) (Value.int _ _) _) _ _ _)); (fail_if_success (with_reducible show TupStores _ _ _ _ _ _ _ _)); (fail_if_success (with_reducible show wpAny _ _ (call (Value.builtin "len") _ _) _ _ _)); (fail_if_success (with_reducible show wpAny _ _ (call (Value.builtin "min") _ _) _ _ _)); (fail_if_success (with_reducible show wpAny _ _ (call (Value.builtin "max") _ _) _ _ _)); (fail_if_success (with_reducible show wpAny _ _ (call (Value.type "dict") _ _) _ _ _)); (fail_if_success (with_reducible show wpAny _ _ (eval (Expr.Dict _ _ _) _) _ _ _)); walk1; (try dsimp only)))
        refine ints_same (news_lst N75 (.head _)) (news_lst N75 (.tail _ hdl71)) hys75 hi' (un_law0 _) ?_
        repeat' (first | (k_unfold; (try dsimp only)) | ((fail_if_success (with_reducible show wpAny _ _ (getMethod (Value.ref _) (Str.ofString "items") _) _ _ _)); (fail_if_success (with_reducible show wpAny _ _ (getMethod (Value.ref _) (Str.ofString "values") _) _ _ _)); (fail_if_success (with_reducible show wpAny _ _ (call (Value.builtin "dict.items") _) _ _ _)); (fail_if_success (with_reducible show wpAny _ _ (call (Value.builtin "dict.values") _) _ _ _)); (fail_if_success (with_reducible show wpAny _ _ (compareOp CmpOp.In (Value.ref _) (Value.ref _)) _ _ _)); (fail_if_success (with_reducible show wpAny _ _ (setItem (Value.ref _) (Value.ref _) _) _ _ _)); (fail_if_success (with_reducible show wpAny _ _ (subscriptTail _ _ (Value.ref _) (Value.ref _)) _ _ _)); (fail_if_success (with_reducible show wpAny _ _ (eval (Expr.Name (Str.ofString "k") _) (compEnvC _ _ _ _)) _ _ _)); (fail_if_success (with_reducible show wpAny _ _ (call (Value.builtin "list.append") _ _) _ _ _)); (fail_if_success (with_reducible show wpAny _ _ (subscriptTail _ (Expr.Slice _ _ _ _) (Value.ref _) (Value.ref _)) _ _ _)); (fail_if_success (with_reducible show wpAny _ _ (compareOp CmpOp.NotEq (Value.ref _) (Value.ref _)) _ _ _)); (fail_if_success (with_reducible show wpAny _ _ (compareOp CmpOp.Eq (Value.ref _) (Value.ref _)) _ _ _)); (fail_if_success (with_reducible show wpAny _ _ (compareOp CmpOp.Lt (Value.ref _) (Value.ref _)) _ _ _)); (fail_if_success (with_reducible show wpAny _ _ (call (Value.type "enumerate") _ _) _ _ _)); (fail_if_success (with_reducible show wpAny _ _ (exec (Stmt.While _ _ _ _) _) _ _ _)); (fail_if_success (with_reducible show wpAny _ _ (exec (Stmt.For _ _ _ _ _) _) _ _ _)); (fail_if_success (with_reducible show wpAny _ _ (call (Value.ref _) _ _) _ _ _)); (fail_if_success (with_reducible show wpAny _ _ (eval (Expr.ListComp _ _ _ _) _) _ _ _)); (fail_if_success (with_reducible show wpAny _ _ (subscriptTail _ _ (Value.ref _) (Value.int _ _)) _ _ _)); (fail_if_success (with_reducible show wpAny _ _ (setItem (Value.ref _) (Value.int _ _) _) _ _ _)); (fail_if_success (with_reducible show TupStores _ _ _ _ _ _ _ _)); (fail_if_success (with_reducible show wpAny _ _ (call (Value.builtin "len") _ _) _ _ _)); (fail_if_success (with_reducible show wpAny _ _ (call (Value.builtin "min") _ _) _ _ _)); (fail_if_success (with_reducible show wpAny _ _ (call (Value.builtin "max") _ _) _ _ _)); (fail_if_success (with_reducible show wpAny _ _ (call (Value.type "dict") _ _) _ _ _)); (fail_if_success (with_reducible show wpAny _ _ (eval (Expr.Dict _ _ _) _) _ _ _)); walk1; (try dsimp only)))
        walk1
        (try dsimp only)
        repeat' (first | (k_unfold; (try dsimp only)) | ((fail_if_success (with_reducible show wpAny _ _ (getMethod (Value.ref _) (Str.ofString "items") _) _ _ _)); (fail_if_success (with_reducible show wpAny _ _ (getMethod (Value.ref _) (Str.ofString "values") _) _ _ _)); (fail_if_success (with_reducible show wpAny _ _ (call (Value.builtin "dict.items") _) _ _ _)); (fail_if_success (with_reducible show wpAny _ _ (call (Value.builtin "dict.values") _) _ _ _)); (fail_if_success (with_reducible show wpAny _ _ (compareOp CmpOp.In (Value.ref _) (Value.ref _)) _ _ _)); (fail_if_success (with_reducible show wpAny _ _ (setItem (Value.ref _) (Value.ref _) _) _ _ _)); (fail_if_success (with_reducible show wpAny _ _ (subscriptTail _ _ (Value.ref _) (Value.ref _)) _ _ _)); (fail_if_success (with_reducible show wpAny _ _ (eval (Expr.Name (Str.ofString "k") _) (compEnvC _ _ _ _)) _ _ _)); (fail_if_success (with_reducible show wpAny _ _ (call (Value.builtin "list.append") _ _) _ _ _)); (fail_if_success (with_reducible show wpAny _ _ (subscriptTail _ (Expr.Slice _ _ _ _) (Value.ref _) (Value.ref _)) _ _ _)); (fail_if_success (with_reducible show wpAny _ _ (compareOp CmpOp.NotEq (Value.ref _) (Value.ref _)) _ _ _)); (fail_if_success (with_reducible show wpAny _ _ (compareOp CmpOp.Eq (Value.ref _) (Value.ref _)) _ _ _)); (fail_if_success (with_reducible show wpAny _ _ (compareOp CmpOp.Lt (Value.ref _) (Value.ref _)) _ _ _)); (fail_if_success (with_reducible show wpAny _ _ (call (Value.type "enumerate") _ _) _ _ _)); (fail_if_success (with_reducible show wpAny _ _ (exec (Stmt.While _ _ _ _) _) _ _ _)); (fail_if_success (with_reducible show wpAny _ _ (exec (Stmt.For _ _ _ _ _) _) _ _ _)); (fail_if_success (with_reducible show wpAny _ _ (call (Value.ref _) _ _) _ _ _)); (fail_if_success (with_reducible show wpAny _ _ (eval (Expr.ListComp _ _ _ _) _) _ _ _)); (fail_if_success (with_reducible show wpAny _ _ (subscriptTail _ _ (Value.ref _) (Value.int _ _)) _ _ _)); (fail_if_success (with_reducible show wpAny _ _ (setItem (Value.ref _) (Value.int _ _) _) _ _ _)); (fail_if_success (with_reducible show TupStores _ _ _ _ _ _ _ _)); (fail_if_success (with_reducible show wpAny _ _ (call (Value.builtin "len") _ _) _ _ _)); (fail_if_success (with_reducible show wpAny _ _ (call (Value.builtin "min") _ _) _ _ _)); (fail_if_success (with_reducible show wpAny _ _ (call (Value.builtin "max") _ _) _ _ _)); (fail_if_success (with_reducible show wpAny _ _ (call (Value.type "dict") _ _) _ _ _)); (fail_if_success (with_reducible show wpAny _ _ (eval (Expr.Dict _ _ _) _) _ _ _)); walk1; (try dsimp only)))
        rename Fr _ _ _ _ => F76
        rename News _ _ _ _ => N76
        rename_i dW0 _ oW0 lW0 _ _ iW0 _ _ _
        refine For_turns F76 ?_
        repeat' (first | (k_unfold; (try dsimp only)) | ((fail_if_success (with_reducible show wpAny _ _ (getMethod (Value.ref _) (Str.ofString "items") _) _ _ _)); (fail_if_success (with_reducible show wpAny _ _ (getMethod (Value.ref _) (Str.ofString "values") _) _ _ _)); (fail_if_success (with_reducible show wpAny _ _ (call (Value.builtin "dict.items") _) _ _ _)); (fail_if_success (with_reducible show wpAny _ _ (call (Value.builtin "dict.values") _) _ _ _)); (fail_if_success (with_reducible show wpAny _ _ (compareOp CmpOp.In (Value.ref _) (Value.ref _)) _ _ _)); (fail_if_success (with_reducible show wpAny _ _ (setItem (Value.ref _) (Value.ref _) _) _ _ _)); (fail_if_success (with_reducible show wpAny _ _ (subscriptTail _ _ (Value.ref _) (Value.ref _)) _ _ _)); (fail_if_success (with_reducible show wpAny _ _ (eval (Expr.Name (Str.ofString "k") _) (compEnvC _ _ _ _)) _ _ _)); (fail_if_success (with_reducible show wpAny _ _ (call (Value.builtin "list.append") _ _) _ _ _)); (fail_if_success (with_reducible show wpAny _ _ (subscriptTail _ (Expr.Slice _ _ _ _) (Value.ref _) (Value.ref _)) _ _ _)); (fail_if_success (with_reducible show wpAny _ _ (compareOp CmpOp.NotEq (Value.ref _) (Value.ref _)) _ _ _)); (fail_if_success (with_reducible show wpAny _ _ (compareOp CmpOp.Eq (Value.ref _) (Value.ref _)) _ _ _)); (fail_if_success (with_reducible show wpAny _ _ (compareOp CmpOp.Lt (Value.ref _) (Value.ref _)) _ _ _)); (fail_if_success (with_reducible show wpAny _ _ (call (Value.type "enumerate") _ _) _ _ _)); (fail_if_success (with_reducible show wpAny _ _ (exec (Stmt.While _ _ _ _) _) _ _ _)); (fail_if_success (with_reducible show wpAny _ _ (exec (Stmt.For _ _ _ _ _) _) _ _ _)); (fail_if_success (with_reducible show wpAny _ _ (call (Value.ref _) _ _) _ _ _)); (fail_if_success (with_reducible show wpAny _ _ (eval (Expr.ListComp _ _ _ _) _) _ _ _)); (fail_if_success (with_reducible show wpAny _ _ (subscriptTail _ _ (Value.ref _) (Value.int _ _)) _ _ _)); (fail_if_success (with_reducible show wpAny _ _ (setItem (Value.ref _) (Value.int _ _) _) _ _ _)); (fail_if_success (with_reducible show TupStores _ _ _ _ _ _ _ _)); (fail_if_success (with_reducible show wpAny _ _ (call (Value.builtin "len") _ _) _ _ _)); (fail_if_success (with_reducible show wpAny _ _ (call (Value.builtin "min") _ _) _ _ _)); (fail_if_success (with_reducible show wpAny _ _ (call (Value.builtin "max") _ _) _ _ _)); (fail_if_success (with_reducible show wpAny _ _ (call (Value.type "dict") _ _) _ _ _)); (fail_if_success (with_reducible show wpAny _ _ (eval (Expr.Dict _ _ _) _) _ _ _)); walk1; (try dsimp only)))
        have N77 : News _ _ _ ((dW0, oW0) :: NB) := fun q hq => N76 q (by
          rcases List.mem_cons.mp hq with rfl | hq
          · exact .head _
          · exact .tail _ (.tail _ hq))
        clear N76
        have htle := there_le ds ties
        have hthl : (thereR ds ties).length = ds.length := by rw [← hrTB.length]; exact hrTl
        refine for_list (vs := refsT) rfl rfl rfl (hoT.list N77 (.tail _ hTm)) (N77 _ (.tail _ hTm)).2.1 F76 N77
          (fun i m nx' => ∃ dW oW v1, (∀ q ∈ NB, q ∈ nx') ∧ (dW, oW) ∈ nx' ∧ (dW == sysModules) = false ∧ TabO PySem.Challenge.rw_zs0001_01.row.prog w0 (KeyIn PySem.Challenge.rw_zs0001_01.row.prog w0 nx') oW (wholeT ((thereR ds ties).take i)) ∧
            m = fun y => if y = (Str.ofString "row") then v1 else if y = (Str.ofString "whole") then some (Value.ref dW) else if y = (Str.ofString "two") then u1 else if y = (Str.ofString "one") then u2 else if y = (Str.ofString "there") then some (Value.ref D31) else if y = (Str.ofString "back") then some (Value.ref D32) else if y = (Str.ofString "full") then u3 else if y = (Str.ofString "ties") then some (Value.ref al) else if y = (Str.ofString "degrees") then some (Value.ref dl) else List.lookup y [((Str.ofString "script"), Value.ref sc)].reverse)
          ?_ [] (fun _ h => nomatch h) ?_ ?_
        · refine' ⟨dW0, oW0, none, fun q hq => .tail _ hq, .head _, lW0, tab_new iW0, ?meq⟩
          case meq =>
            (funext y; first | rfl | ((try dsimp only); by_cases hh0 : y = (Str.ofString "row"); (· subst hh0; rfl); by_cases hh1 : y = (Str.ofString "whole"); (· subst hh1; rfl); by_cases hh2 : y = (Str.ofString "two"); (· subst hh2; rfl); by_cases hh3 : y = (Str.ofString "one"); (· subst hh3; rfl); by_cases hh4 : y = (Str.ofString "there"); (· subst hh4; rfl); by_cases hh5 : y = (Str.ofString "back"); (· subst hh5; rfl); by_cases hh6 : y = (Str.ofString "full"); (· subst hh6; rfl); by_cases hh7 : y = (Str.ofString "ties"); (· subst hh7; rfl); by_cases hh8 : y = (Str.ofString "degrees"); (· subst hh8; rfl); simp only [hh0, hh1, hh2, hh3, hh4, hh5, hh6, hh7, hh8, if_false]))
        · rintro i v m₁ nx' h80 tk80 own wr hv ⟨dW, oW, v1, hsub, hdW, lW, tW, rfl⟩ hnw hown hoff F80 N80
          obtain ⟨T, hT, d, o, rfl, hm, l, t⟩ := hrTB.get? hv
          dsimp only [envOf] at F80 N80
          k_fold
          repeat' (first | (k_unfold; (try dsimp only)) | ((fail_if_success (with_reducible show wpAny _ _ (getMethod (Value.ref _) (Str.ofString "items") _) _ _ _)); (fail_if_success (with_reducible show wpAny _ _ (getMethod (Value.ref _) (Str.ofString "values") _) _ _ _)); (fail_if_success (with_reducible show wpAny _ _ (call (Value.builtin "dict.items") _) _ _ _)); (fail_if_success (with_reducible show wpAny _ _ (call (Value.builtin "dict.values") _) _ _ _)); (fail_if_success (with_reducible show wpAny _ _ (compareOp CmpOp.In (Value.ref _) (Value.ref _)) _ _ _)); (fail_if_success (with_reducible show wpAny _ _ (setItem (Value.ref _) (Value.ref _) _) _ _ _)); (fail_if_success (with_reducible show wpAny _ _ (subscriptTail _ _ (Value.ref _) (Value.ref _)) _ _ _)); (fail_if_success (with_reducible show wpAny _ _ (eval (Expr.Name (Str.ofString "k") _) (compEnvC _ _ _ _)) _ _ _)); (fail_if_success (with_reducible show wpAny _ _ (call (Value.builtin "list.append") _ _) _ _ _)); (fail_if_success (with_reducible show wpAny _ _ (subscriptTail _ (Expr.Slice _ _ _ _) (Value.ref _) (Value.ref _)) _ _ _)); (fail_if_success (with_reducible show wpAny _ _ (compareOp CmpOp.NotEq (Value.ref _) (Value.ref _)) _ _ _)); (fail_if_success (with_reducible show wpAny _ _ (compareOp CmpOp.Eq (Value.ref _) (Value.ref _)) _ _ _)); (fail_if_success (with_reducible show wpAny _ _ (compareOp CmpOp.Lt (Value.ref _) (Value.ref _)) _ _ _)); (fail_if_success (with_reducible show wpAny _ _ (call (Value.type "enumerate") _ _) _ _ _)); (fail_if_success (with_reducible show wpAny _ _ (exec (Stmt.While _ _ _ _) _) _ _ _)); (fail_if_success (with_reducible show wpAny _ _ (exec (Stmt.For _ _ _ _ _) _) _ _ _)); (fail_if_success (with_reducible show wpAny _ _ (call (Value.ref _) _ _) _ _ _)); (fail_if_success (with_reducible show wpAny _ _ (eval (Expr.ListComp _ _ _ _) _) _ _ _)); (fail_if_success (with_reducible show wpAny _ _ (subscriptTail _ _ (Value.ref _) (Value.int _ _)) _ _ _)); (fail_if_success (with_reducible show wpAny _ _ (setItem (Value.ref _) (Value.int _ _) _) _ _ _)); (fail_if_success (with_reducible show TupStores _ _ _ _ _ _ _ _)); (fail_if_success (with_reducible show wpAny _ _ (call (Value.builtin "len") _ _) _ _ _)); (fail_if_success (with_reducible show wpAny _ _ (call (Value.builtin "min") _ _) _ _ _)); (fail_if_success (with_reducible show wpAny _ _ (call (Value.builtin "max") _ _) _ _ _)); (fail_if_success (with_reducible show wpAny _ _ (call (Value.type "dict") _ _) _ _ _)); (fail_if_success (with_reducible show wpAny _ _ (eval (Expr.Dict _ _ _) _) _ _ _)); walk1; (try dsimp only)))
          have Nb : News _ _ _ nx' := fun q hq => N80 q (List.mem_append_right _ hq)
          refine add_spec (KP := KeyIn PySem.Challenge.rw_zs0001_01.row.prog w0 nx') (X0.keeps F80.keep) (T0.keeps F80.keep) (by decide) (by decide) (fun ks b k => k.key Nb) (Nb _ hdW).1 (Nb _ (hsub _ hm)).1 lW l tW (t.mono fun _ _ k => k.mono hsub) (by
            have hl1 := whole_le ((thereR ds ties).take i) (fun T hT => htle T (List.mem_of_mem_take hT)) []
            have hl2 := htle T (List.mem_of_getElem? hT)
            have hl3 : ((thereR ds ties).take i).length ≤ 7 := by rw [List.length_take]; omega
            have hl4 : ties.length * ((thereR ds ties).take i).length ≤ 49 * 7 := Nat.mul_le_mul htl hl3
            simp only [List.length_nil] at hl1
            simp only [sizeLine_eq]
            unfold wholeT
            omega) ?_
          intro h81 tk81 dn on up fr ln ho tn
          have F81 := F80.keeps up
          have hn := fresh_of F80 fr
          have N81 : News _ _ _ ((dn, on) :: (own ++ nx')) := news_cons ho hn.1 hn.2 (N80.keeps up)
          have hnew : dn ∉ wr := fun hw => by
            obtain ⟨ob, hob⟩ := hown _ hw
            have e := (N80 _ (List.mem_append_left _ hob)).1
            rw [fr] at e
            cases e
          clear F80 N80 Nb
          repeat' (first | (k_unfold; (try dsimp only)) | ((fail_if_success (with_reducible show wpAny _ _ (getMethod (Value.ref _) (Str.ofString "items") _) _ _ _)); (fail_if_success (with_reducible show wpAny _ _ (getMethod (Value.ref _) (Str.ofString "values") _) _ _ _)); (fail_if_success (with_reducible show wpAny _ _ (call (Value.builtin "dict.items") _) _ _ _)); (fail_if_success (with_reducible show wpAny _ _ (call (Value.builtin "dict.values") _) _ _ _)); (fail_if_success (with_reducible show wpAny _ _ (compareOp CmpOp.In (Value.ref _) (Value.ref _)) _ _ _)); (fail_if_success (with_reducible show wpAny _ _ (setItem (Value.ref _) (Value.ref _) _) _ _ _)); (fail_if_success (with_reducible show wpAny _ _ (subscriptTail _ _ (Value.ref _) (Value.ref _)) _ _ _)); (fail_if_success (with_reducible show wpAny _ _ (eval (Expr.Name (Str.ofString "k") _) (compEnvC _ _ _ _)) _ _ _)); (fail_if_success (with_reducible show wpAny _ _ (call (Value.builtin "list.append") _ _) _ _ _)); (fail_if_success (with_reducible show wpAny _ _ (subscriptTail _ (Expr.Slice _ _ _ _) (Value.ref _) (Value.ref _)) _ _ _)); (fail_if_success (with_reducible show wpAny _ _ (compareOp CmpOp.NotEq (Value.ref _) (Value.ref _)) _ _ _)); (fail_if_success (with_reducible show wpAny _ _ (compareOp CmpOp.Eq (Value.ref _) (Value.ref _)) _ _ _)); (fail_if_success (with_reducible show wpAny _ _ (compareOp CmpOp.Lt (Value.ref _) (Value.ref _)) _ _ _)); (fail_if_success (with_reducible show wpAny _ _ (call (Value.type "enumerate") _ _) _ _ _)); (fail_if_success (with_reducible show wpAny _ _ (exec (Stmt.While _ _ _ _) _) _ _ _)); (fail_if_success (with_reducible show wpAny _ _ (exec (Stmt.For _ _ _ _ _) _) _ _ _)); (fail_if_success (with_reducible show wpAny _ _ (call (Value.ref _) _ _) _ _ _)); (fail_if_success (with_reducible show wpAny _ _ (eval (Expr.ListComp _ _ _ _) _) _ _ _)); (fail_if_success (with_reducible show wpAny _ _ (subscriptTail _ _ (Value.ref _) (Value.int _ _)) _ _ _)); (fail_if_success (with_reducible show wpAny _ _ (setItem (Value.ref _) (Value.int _ _) _) _ _ _)); (fail_if_success (with_reducible show TupStores _ _ _ _ _ _ _ _)); (fail_if_success (with_reducible show wpAny _ _ (call (Value.builtin "len") _ _) _ _ _)); (fail_if_success (with_reducible show wpAny _ _ (call (Value.builtin "min") _ _) _ _ _)); (fail_if_success (with_reducible show wpAny _ _ (call (Value.builtin "max") _ _) _ _ _)); (fail_if_success (with_reducible show wpAny _ _ (call (Value.type "dict") _ _) _ _ _)); (fail_if_success (with_reducible show wpAny _ _ (eval (Expr.Dict _ _ _) _) _ _ _)); walk1; (try dsimp only)))
          rename Fr _ _ _ _ => F82
          rename News _ _ _ _ => N82
          refine' TurnQ.intro F82 (nx := (dn, on) :: nx') (fun q hq => N82 q (by
            rcases List.mem_append.mp hq with hq | hq
            · exact .tail _ (List.mem_append_left _ hq)
            · rcases List.mem_cons.mp hq with rfl | hq
              · exact .head _
              · exact .tail _ (List.mem_append_right _ hq))) ?_ ⟨dn, on, _, fun q hq => .tail _ (hsub q hq), .head _, ln, ?_, ?meq⟩
          case meq =>
            (funext y; first | rfl | ((try dsimp only); by_cases hh0 : y = (Str.ofString "row"); (· subst hh0; rfl); by_cases hh1 : y = (Str.ofString "whole"); (· subst hh1; rfl); by_cases hh2 : y = (Str.ofString "two"); (· subst hh2; rfl); by_cases hh3 : y = (Str.ofString "one"); (· subst hh3; rfl); by_cases hh4 : y = (Str.ofString "there"); (· subst hh4; rfl); by_cases hh5 : y = (Str.ofString "back"); (· subst hh5; rfl); by_cases hh6 : y = (Str.ofString "full"); (· subst hh6; rfl); by_cases hh7 : y = (Str.ofString "ties"); (· subst hh7; rfl); by_cases hh8 : y = (Str.ofString "degrees"); (· subst hh8; rfl); simp only [hh0, hh1, hh2, hh3, hh4, hh5, hh6, hh7, hh8, if_false]))
          · intro q hq
            rcases List.mem_cons.mp hq with rfl | hq
            · exact hnew
            · exact hnw q hq
          · unfold wholeT
            rw [fold_take_succ _ _ _ _ _ hT]
            exact tn.mono fun _ _ k => k.mono fun q hq => .tail _ hq
        rintro h85 tk85 m85 nx85 F85 N85 ⟨dW, oW, v1, hsub85, hdW, lW, tW, rfl⟩
        rw [hrTB.length, List.take_length] at tW
        dsimp only [envOf] at F85 N85
        clear F76 N77 hnxap
        repeat' (first | (k_unfold; (try dsimp only)) | ((fail_if_success (with_reducible show wpAny _ _ (getMethod (Value.ref _) (Str.ofString "items") _) _ _ _)); (fail_if_success (with_reducible show wpAny _ _ (getMethod (Value.ref _) (Str.ofString "values") _) _ _ _)); (fail_if_success (with_reducible show wpAny _ _ (call (Value.builtin "dict.items") _) _ _ _)); (fail_if_success (with_reducible show wpAny _ _ (call (Value.builtin "dict.values") _) _ _ _)); (fail_if_success (with_reducible show wpAny _ _ (compareOp CmpOp.In (Value.ref _) (Value.ref _)) _ _ _)); (fail_if_success (with_reducible show wpAny _ _ (setItem (Value.ref _) (Value.ref _) _) _ _ _)); (fail_if_success (with_reducible show wpAny _ _ (subscriptTail _ _ (Value.ref _) (Value.ref _)) _ _ _)); (fail_if_success (with_reducible show wpAny _ _ (eval (Expr.Name (Str.ofString "k") _) (compEnvC _ _ _ _)) _ _ _)); (fail_if_success (with_reducible show wpAny _ _ (call (Value.builtin "list.append") _ _) _ _ _)); (fail_if_success (with_reducible show wpAny _ _ (subscriptTail _ (Expr.Slice _ _ _ _) (Value.ref _) (Value.ref _)) _ _ _)); (fail_if_success (with_reducible show wpAny _ _ (compareOp CmpOp.NotEq (Value.ref _) (Value.ref _)) _ _ _)); (fail_if_success (with_reducible show wpAny _ _ (compareOp CmpOp.Eq (Value.ref _) (Value.ref _)) _ _ _)); (fail_if_success (with_reducible show wpAny _ _ (compareOp CmpOp.Lt (Value.ref _) (Value.ref _)) _ _ _)); (fail_if_success (with_reducible show wpAny _ _ (call (Value.type "enumerate") _ _) _ _ _)); (fail_if_success (with_reducible show wpAny _ _ (exec (Stmt.While _ _ _ _) _) _ _ _)); (fail_if_success (with_reducible show wpAny _ _ (exec (Stmt.For _ _ _ _ _) _) _ _ _)); (fail_if_success (with_reducible show wpAny _ _ (call (Value.ref _) _ _) _ _ _)); (fail_if_success (with_reducible show wpAny _ _ (eval (Expr.ListComp _ _ _ _) _) _ _ _)); (fail_if_success (with_reducible show wpAny _ _ (subscriptTail _ _ (Value.ref _) (Value.int _ _)) _ _ _)); (fail_if_success (with_reducible show wpAny _ _ (setItem (Value.ref _) (Value.int _ _) _) _ _ _)); (fail_if_success (with_reducible show TupStores _ _ _ _ _ _ _ _)); (fail_if_success (with_reducible show wpAny _ _ (call (Value.builtin "len") _ _) _ _ _)); (fail_if_success (with_reducible show wpAny _ _ (call (Value.builtin "min") _ _) _ _ _)); (fail_if_success (with_reducible show wpAny _ _ (call (Value.builtin "max") _ _) _ _ _)); (fail_if_success (with_reducible show wpAny _ _ (call (Value.type "dict") _ _) _ _ _)); (fail_if_success (with_reducible show wpAny _ _ (eval (Expr.Dict _ _ _) _) _ _ _)); walk1; (try dsimp only)))
        refine my_comp (cl := []) (by with_unfolding_all rfl) (by rfl) (by decide) ?_
        repeat' (first | (k_unfold; (try dsimp only)) | ((fail_if_success (with_reducible show wpAny _ _ (getMethod (Value.ref _) (Str.ofString "items") _) _ _ _)); (fail_if_success (with_reducible show wpAny _ _ (getMethod (Value.ref _) (Str.ofString "values") _) _ _ _)); (fail_if_success (with_reducible show wpAny _ _ (call (Value.builtin "dict.items") _) _ _ _)); (fail_if_success (with_reducible show wpAny _ _ (call (Value.builtin "dict.values") _) _ _ _)); (fail_if_success (with_reducible show wpAny _ _ (compareOp CmpOp.In (Value.ref _) (Value.ref _)) _ _ _)); (fail_if_success (with_reducible show wpAny _ _ (setItem (Value.ref _) (Value.ref _) _) _ _ _)); (fail_if_success (with_reducible show wpAny _ _ (subscriptTail _ _ (Value.ref _) (Value.ref _)) _ _ _)); (fail_if_success (with_reducible show wpAny _ _ (eval (Expr.Name (Str.ofString "k") _) (compEnvC _ _ _ _)) _ _ _)); (fail_if_success (with_reducible show wpAny _ _ (call (Value.builtin "list.append") _ _) _ _ _)); (fail_if_success (with_reducible show wpAny _ _ (subscriptTail _ (Expr.Slice _ _ _ _) (Value.ref _) (Value.ref _)) _ _ _)); (fail_if_success (with_reducible show wpAny _ _ (compareOp CmpOp.NotEq (Value.ref _) (Value.ref _)) _ _ _)); (fail_if_success (with_reducible show wpAny _ _ (compareOp CmpOp.Eq (Value.ref _) (Value.ref _)) _ _ _)); (fail_if_success (with_reducible show wpAny _ _ (compareOp CmpOp.Lt (Value.ref _) (Value.ref _)) _ _ _)); (fail_if_success (with_reducible show wpAny _ _ (call (Value.type "enumerate") _ _) _ _ _)); (fail_if_success (with_reducible show wpAny _ _ (exec (Stmt.While _ _ _ _) _) _ _ _)); (fail_if_success (with_reducible show wpAny _ _ (exec (Stmt.For _ _ _ _ _) _) _ _ _)); (fail_if_success (with_reducible show wpAny _ _ (call (Value.ref _) _ _) _ _ _)); (fail_if_success (with_reducible show wpAny _ _ (eval (Expr.ListComp _ _ _ _) _) _ _ _)); (fail_if_success (with_reducible show wpAny _ _ (subscriptTail _ _ (Value.ref _) (Value.int _ _)) _ _ _)); (fail_if_success (with_reducible show wpAny _ _ (setItem (Value.ref _) (Value.int _ _) _) _ _ _)); (fail_if_success (with_reducible show TupStores _ _ _ _ _ _ _ _)); (fail_if_success (with_reducible show wpAny _ _ (call (Value.builtin "len") _ _) _ _ _)); (fail_if_success (with_reducible show wpAny _ _ (call (Value.builtin "min") _ _) _ _ _)); (fail_if_success (with_reducible show wpAny _ _ (call (Value.builtin "max") _ _) _ _ _)); (fail_if_success (with_reducible show wpAny _ _ (call (Value.type "dict") _ _) _ _ _)); (fail_if_success (with_reducible show wpAny _ _ (eval (Expr.Dict _ _ _) _) _ _ _)); walk1; (try dsimp only)))
        have hdl85 := hsub85 _ hdl71
        refine comp_enum (vs := vds) (fun i => decide (ds.getD i 0 > 0)) rfl (by decide) (by rfl) (by rfl) (by rfl) (by decide) (news_lst N85 hdl85) (N85 _ hdl85).2.1 (by rw [hvl]; simp only [sizeLine_eq]; omega) F85 N85
          (fun j ys nx' => (∀ q ∈ nx85, q ∈ nx') ∧ All2 (PairIn PySem.Challenge.rw_zs0001_01.row.prog w0 nx') ys (degT (ds.take j))) ⟨fun _ h => h, .nil⟩ ?_ ?_
        · rintro j v t mC ys nx' h86 tk86 own C oC D wr E' hv ⟨hm0, hm1⟩ hoC ⟨hsub, hys⟩ hoff hown F86 N86
          obtain ⟨dd, td, rfl, hdd⟩ := hi'.at j v hv
          have hgd : ds.getD j 0 = dd := by rw [List.getD_eq_getElem?_getD, hdd]; rfl
          rw [hgd, degT_snoc hdd]
          refine ⟨wpAny_tests_one ?_, fun q => ⟨hsub, by rw [if_neg (by simpa using q)]; exact hys⟩, ?_⟩
          · k_fold
            repeat' (first | (k_unfold; (try dsimp only)) | ((fail_if_success (with_reducible show wpAny _ _ (getMethod (Value.ref _) (Str.ofString "items") _) _ _ _)); (fail_if_success (with_reducible show wpAny _ _ (getMethod (Value.ref _) (Str.ofString "values") _) _ _ _)); (fail_if_success (with_reducible show wpAny _ _ (call (Value.builtin "dict.items") _) _ _ _)); (fail_if_success (with_reducible show wpAny _ _ (call (Value.builtin "dict.values") _) _ _ _)); (fail_if_success (with_reducible show wpAny _ _ (compareOp CmpOp.In (Value.ref _) (Value.ref _)) _ _ _)); (fail_if_success (with_reducible show wpAny _ _ (setItem (Value.ref _) (Value.ref _) _) _ _ _)); (fail_if_success (with_reducible show wpAny _ _ (subscriptTail _ _ (Value.ref _) (Value.ref _)) _ _ _)); (fail_if_success (with_reducible show wpAny _ _ (eval (Expr.Name (Str.ofString "k") _) (compEnvC _ _ _ _)) _ _ _)); (fail_if_success (with_reducible show wpAny _ _ (call (Value.builtin "list.append") _ _) _ _ _)); (fail_if_success (with_reducible show wpAny _ _ (subscriptTail _ (Expr.Slice _ _ _ _) (Value.ref _) (Value.ref _)) _ _ _)); (fail_if_success (with_reducible show wpAny _ _ (compareOp CmpOp.NotEq (Value.ref _) (Value.ref _)) _ _ _)); (fail_if_success (with_reducible show wpAny _ _ (compareOp CmpOp.Eq (Value.ref _) (Value.ref _)) _ _ _)); (fail_if_success (with_reducible show wpAny _ _ (compareOp CmpOp.Lt (Value.ref _) (Value.ref _)) _ _ _)); (fail_if_success (with_reducible show wpAny _ _ (call (Value.type "enumerate") _ _) _ _ _)); (fail_if_success (with_reducible show wpAny _ _ (exec (Stmt.While _ _ _ _) _) _ _ _)); (fail_if_success (with_reducible show wpAny _ _ (exec (Stmt.For _ _ _ _ _) _) _ _ _)); (fail_if_success (with_reducible show wpAny _ _ (call (Value.ref _) _ _) _ _ _)); (fail_if_success (with_reducible show wpAny _ _ (eval (Expr.ListComp _ _ _ _) _) _ _ _)); (fail_if_success (with_reducible show wpAny _ _ (subscriptTail _ _ (Value.ref _) (Value.int _ _)) _ _ _)); (fail_if_success (with_reducible show wpAny _ _ (setItem (Value.ref _) (Value.int _ _) _) _ _ _)); (fail_if_success (with_reducible show TupStores _ _ _ _ _ _ _ _)); (fail_if_success (with_reducible show wpAny _ _ (call (Value.builtin "len") _ _) _ _ _)); (fail_if_success (with_reducible show wpAny _ _ (call (Value.builtin "min") _ _) _ _ _)); (fail_if_success (with_reducible show wpAny _ _ (call (Value.builtin "max") _ _) _ _ _)); (fail_if_success (with_reducible show wpAny _ _ (call (Value.type "dict") _ _) _ _ _)); (fail_if_success (with_reducible show wpAny _ _ (eval (Expr.Dict _ _ _) _) _ _ _)); walk1; (try dsimp only)))
            exact CompT.intro F86 N86
          intro h87 tk87 hq87 F87 N87
          clear F86 N86
          k_fold
          repeat' (first | (k_unfold; (try dsimp only)) | ((fail_if_success (with_reducible show wpAny _ _ (getMethod (Value.ref _) (Str.ofString "items") _) _ _ _)); (fail_if_success (with_reducible show wpAny _ _ (getMethod (Value.ref _) (Str.ofString "values") _) _ _ _)); (fail_if_success (with_reducible show wpAny _ _ (call (Value.builtin "dict.items") _) _ _ _)); (fail_if_success (with_reducible show wpAny _ _ (call (Value.builtin "dict.values") _) _ _ _)); (fail_if_success (with_reducible show wpAny _ _ (compareOp CmpOp.In (Value.ref _) (Value.ref _)) _ _ _)); (fail_if_success (with_reducible show wpAny _ _ (setItem (Value.ref _) (Value.ref _) _) _ _ _)); (fail_if_success (with_reducible show wpAny _ _ (subscriptTail _ _ (Value.ref _) (Value.ref _)) _ _ _)); (fail_if_success (with_reducible show wpAny _ _ (eval (Expr.Name (Str.ofString "k") _) (compEnvC _ _ _ _)) _ _ _)); (fail_if_success (with_reducible show wpAny _ _ (call (Value.builtin "list.append") _ _) _ _ _)); (fail_if_success (with_reducible show wpAny _ _ (subscriptTail _ (Expr.Slice _ _ _ _) (Value.ref _) (Value.ref _)) _ _ _)); (fail_if_success (with_reducible show wpAny _ _ (compareOp CmpOp.NotEq (Value.ref _) (Value.ref _)) _ _ _)); (fail_if_success (with_reducible show wpAny _ _ (compareOp CmpOp.Eq (Value.ref _) (Value.ref _)) _ _ _)); (fail_if_success (with_reducible show wpAny _ _ (compareOp CmpOp.Lt (Value.ref _) (Value.ref _)) _ _ _)); (fail_if_success (with_reducible show wpAny _ _ (call (Value.type "enumerate") _ _) _ _ _)); (fail_if_success (with_reducible show wpAny _ _ (exec (Stmt.While _ _ _ _) _) _ _ _)); (fail_if_success (with_reducible show wpAny _ _ (exec (Stmt.For _ _ _ _ _) _) _ _ _)); (fail_if_success (with_reducible show wpAny _ _ (call (Value.ref _) _ _) _ _ _)); (fail_if_success (with_reducible show wpAny _ _ (eval (Expr.ListComp _ _ _ _) _) _ _ _)); (fail_if_success (with_reducible show wpAny _ _ (subscriptTail _ _ (Value.ref _) (Value.int _ _)) _ _ _)); (fail_if_success (with_reducible show wpAny _ _ (setItem (Value.ref _) (Value.int _ _) _) _ _ _)); (fail_if_success (with_reducible show TupStores _ _ _ _ _ _ _ _)); (fail_if_success (with_reducible show wpAny _ _ (call (Value.builtin "len") _ _) _ _ _)); (fail_if_success (with_reducible show wpAny _ _ (call (Value.builtin "min") _ _) _ _ _)); (fail_if_success (with_reducible show wpAny _ _ (call (Value.builtin "max") _ _) _ _ _)); (fail_if_success (with_reducible show wpAny _ _ (call (Value.type "dict") _ _) _ _ _)); (fail_if_success (with_reducible show wpAny _ _ (eval (Expr.Dict _ _ _) _) _ _ _)); (fail_if_success (with_reducible show wpAny _ _ (newTuple _) _ _ _)); walk1; (try dsimp only)))
          rename Fr _ _ _ _ => F87
          rename News _ _ _ _ => N87
          refine LCgL.ld_own N87 (List.mem_append_right _ (.head _)) hoC hm0 ?_
          repeat' (first | (k_unfold; (try dsimp only)) | ((fail_if_success (with_reducible show wpAny _ _ (getMethod (Value.ref _) (Str.ofString "items") _) _ _ _)); (fail_if_success (with_reducible show wpAny _ _ (getMethod (Value.ref _) (Str.ofString "values") _) _ _ _)); (fail_if_success (with_reducible show wpAny _ _ (call (Value.builtin "dict.items") _) _ _ _)); (fail_if_success (with_reducible show wpAny _ _ (call (Value.builtin "dict.values") _) _ _ _)); (fail_if_success (with_reducible show wpAny _ _ (compareOp CmpOp.In (Value.ref _) (Value.ref _)) _ _ _)); (fail_if_success (with_reducible show wpAny _ _ (setItem (Value.ref _) (Value.ref _) _) _ _ _)); (fail_if_success (with_reducible show wpAny _ _ (subscriptTail _ _ (Value.ref _) (Value.ref _)) _ _ _)); (fail_if_success (with_reducible show wpAny _ _ (eval (Expr.Name (Str.ofString "k") _) (compEnvC _ _ _ _)) _ _ _)); (fail_if_success (with_reducible show wpAny _ _ (call (Value.builtin "list.append") _ _) _ _ _)); (fail_if_success (with_reducible show wpAny _ _ (subscriptTail _ (Expr.Slice _ _ _ _) (Value.ref _) (Value.ref _)) _ _ _)); (fail_if_success (with_reducible show wpAny _ _ (compareOp CmpOp.NotEq (Value.ref _) (Value.ref _)) _ _ _)); (fail_if_success (with_reducible show wpAny _ _ (compareOp CmpOp.Eq (Value.ref _) (Value.ref _)) _ _ _)); (fail_if_success (with_reducible show wpAny _ _ (compareOp CmpOp.Lt (Value.ref _) (Value.ref _)) _ _ _)); (fail_if_success (with_reducible show wpAny _ _ (call (Value.type "enumerate") _ _) _ _ _)); (fail_if_success (with_reducible show wpAny _ _ (exec (Stmt.While _ _ _ _) _) _ _ _)); (fail_if_success (with_reducible show wpAny _ _ (exec (Stmt.For _ _ _ _ _) _) _ _ _)); (fail_if_success (with_reducible show wpAny _ _ (call (Value.ref _) _ _) _ _ _)); (fail_if_success (with_reducible show wpAny _ _ (eval (Expr.ListComp _ _ _ _) _) _ _ _)); (fail_if_success (with_reducible show wpAny _ _ (subscriptTail _ _ (Value.ref _) (Value.int _ _)) _ _ _)); (fail_if_success (with_reducible show wpAny _ _ (setItem (Value.ref _) (Value.int _ _) _) _ _ _)); (fail_if_success (with_reducible show TupStores _ _ _ _ _ _ _ _)); (fail_if_success (with_reducible show wpAny _ _ (call (Value.builtin "len") _ _) _ _ _)); (fail_if_success (with_reducible show wpAny _ _ (call (Value.builtin "min") _ _) _ _ _)); (fail_if_success (with_reducible show wpAny _ _ (call (Value.builtin "max") _ _) _ _ _)); (fail_if_success (with_reducible show wpAny _ _ (call (Value.type "dict") _ _) _ _ _)); (fail_if_success (with_reducible show wpAny _ _ (eval (Expr.Dict _ _ _) _) _ _ _)); (fail_if_success (with_reducible show wpAny _ _ (newTuple _) _ _ _)); walk1; (try dsimp only)))
          refine new_tuple F87 N87 ?_
          intro K88 h88 F88 N88 hK88
          clear F87 N87
          repeat' (first | (k_unfold; (try dsimp only)) | ((fail_if_success (with_reducible show wpAny _ _ (getMethod (Value.ref _) (Str.ofString "items") _) _ _ _)); (fail_if_success (with_reducible show wpAny _ _ (getMethod (Value.ref _) (Str.ofString "values") _) _ _ _)); (fail_if_success (with_reducible show wpAny _ _ (call (Value.builtin "dict.items") _) _ _ _)); (fail_if_success (with_reducible show wpAny _ _ (call (Value.builtin "dict.values") _) _ _ _)); (fail_if_success (with_reducible show wpAny _ _ (compareOp CmpOp.In (Value.ref _) (Value.ref _)) _ _ _)); (fail_if_success (with_reducible show wpAny _ _ (setItem (Value.ref _) (Value.ref _) _) _ _ _)); (fail_if_success (with_reducible show wpAny _ _ (subscriptTail _ _ (Value.ref _) (Value.ref _)) _ _ _)); (fail_if_success (with_reducible show wpAny _ _ (eval (Expr.Name (Str.ofString "k") _) (compEnvC _ _ _ _)) _ _ _)); (fail_if_success (with_reducible show wpAny _ _ (call (Value.builtin "list.append") _ _) _ _ _)); (fail_if_success (with_reducible show wpAny _ _ (subscriptTail _ (Expr.Slice _ _ _ _) (Value.ref _) (Value.ref _)) _ _ _)); (fail_if_success (with_reducible show wpAny _ _ (compareOp CmpOp.NotEq (Value.ref _) (Value.ref _)) _ _ _)); (fail_if_success (with_reducible show wpAny _ _ (compareOp CmpOp.Eq (Value.ref _) (Value.ref _)) _ _ _)); (fail_if_success (with_reducible show wpAny _ _ (compareOp CmpOp.Lt (Value.ref _) (Value.ref _)) _ _ _)); (fail_if_success (with_reducible show wpAny _ _ (call (Value.type "enumerate") _ _) _ _ _)); (fail_if_success (with_reducible show wpAny _ _ (exec (Stmt.While _ _ _ _) _) _ _ _)); (fail_if_success (with_reducible show wpAny _ _ (exec (Stmt.For _ _ _ _ _) _) _ _ _)); (fail_if_success (with_reducible show wpAny _ _ (call (Value.ref _) _ _) _ _ _)); (fail_if_success (with_reducible show wpAny _ _ (eval (Expr.ListComp _ _ _ _) _) _ _ _)); (fail_if_success (with_reducible show wpAny _ _ (subscriptTail _ _ (Value.ref _) (Value.int _ _)) _ _ _)); (fail_if_success (with_reducible show wpAny _ _ (setItem (Value.ref _) (Value.int _ _) _) _ _ _)); (fail_if_success (with_reducible show TupStores _ _ _ _ _ _ _ _)); (fail_if_success (with_reducible show wpAny _ _ (call (Value.builtin "len") _ _) _ _ _)); (fail_if_success (with_reducible show wpAny _ _ (call (Value.builtin "min") _ _) _ _ _)); (fail_if_success (with_reducible show wpAny _ _ (call (Value.builtin "max") _ _) _ _ _)); (fail_if_success (with_reducible show wpAny _ _ (call (Value.type "dict") _ _) _ _ _)); (fail_if_success (with_reducible show wpAny _ _ (eval (Expr.Dict _ _ _) _) _ _ _)); (fail_if_success (with_reducible show wpAny _ _ (newTuple _) _ _ _)); walk1; (try dsimp only)))
          (try refine LCgL.ld_own N88 (.tail _ (List.mem_append_right _ (.head _))) hoC hm1 ?_)
          repeat' (first | (k_unfold; (try dsimp only)) | ((fail_if_success (with_reducible show wpAny _ _ (getMethod (Value.ref _) (Str.ofString "items") _) _ _ _)); (fail_if_success (with_reducible show wpAny _ _ (getMethod (Value.ref _) (Str.ofString "values") _) _ _ _)); (fail_if_success (with_reducible show wpAny _ _ (call (Value.builtin "dict.items") _) _ _ _)); (fail_if_success (with_reducible show wpAny _ _ (call (Value.builtin "dict.values") _) _ _ _)); (fail_if_success (with_reducible show wpAny _ _ (compareOp CmpOp.In (Value.ref _) (Value.ref _)) _ _ _)); (fail_if_success (with_reducible show wpAny _ _ (setItem (Value.ref _) (Value.ref _) _) _ _ _)); (fail_if_success (with_reducible show wpAny _ _ (subscriptTail _ _ (Value.ref _) (Value.ref _)) _ _ _)); (fail_if_success (with_reducible show wpAny _ _ (eval (Expr.Name (Str.ofString "k") _) (compEnvC _ _ _ _)) _ _ _)); (fail_if_success (with_reducible show wpAny _ _ (call (Value.builtin "list.append") _ _) _ _ _)); (fail_if_success (with_reducible show wpAny _ _ (subscriptTail _ (Expr.Slice _ _ _ _) (Value.ref _) (Value.ref _)) _ _ _)); (fail_if_success (with_reducible show wpAny _ _ (compareOp CmpOp.NotEq (Value.ref _) (Value.ref _)) _ _ _)); (fail_if_success (with_reducible show wpAny _ _ (compareOp CmpOp.Eq (Value.ref _) (Value.ref _)) _ _ _)); (fail_if_success (with_reducible show wpAny _ _ (compareOp CmpOp.Lt (Value.ref _) (Value.ref _)) _ _ _)); (fail_if_success (with_reducible show wpAny _ _ (call (Value.type "enumerate") _ _) _ _ _)); (fail_if_success (with_reducible show wpAny _ _ (exec (Stmt.While _ _ _ _) _) _ _ _)); (fail_if_success (with_reducible show wpAny _ _ (exec (Stmt.For _ _ _ _ _) _) _ _ _)); (fail_if_success (with_reducible show wpAny _ _ (call (Value.ref _) _ _) _ _ _)); (fail_if_success (with_reducible show wpAny _ _ (eval (Expr.ListComp _ _ _ _) _) _ _ _)); (fail_if_success (with_reducible show wpAny _ _ (subscriptTail _ _ (Value.ref _) (Value.int _ _)) _ _ _)); (fail_if_success (with_reducible show wpAny _ _ (setItem (Value.ref _) (Value.int _ _) _) _ _ _)); (fail_if_success (with_reducible show TupStores _ _ _ _ _ _ _ _)); (fail_if_success (with_reducible show wpAny _ _ (call (Value.builtin "len") _ _) _ _ _)); (fail_if_success (with_reducible show wpAny _ _ (call (Value.builtin "min") _ _) _ _ _)); (fail_if_success (with_reducible show wpAny _ _ (call (Value.builtin "max") _ _) _ _ _)); (fail_if_success (with_reducible show wpAny _ _ (call (Value.type "dict") _ _) _ _ _)); (fail_if_success (with_reducible show wpAny _ _ (eval (Expr.Dict _ _ _) _) _ _ _)); (fail_if_success (with_reducible show wpAny _ _ (newTuple _) _ _ _)); walk1; (try dsimp only)))
          refine new_tuple F88 N88 ?_
          intro P89 h89 F89 N89 hP89
          clear F88 N88
          repeat' (first | (k_unfold; (try dsimp only)) | ((fail_if_success (with_reducible show wpAny _ _ (getMethod (Value.ref _) (Str.ofString "items") _) _ _ _)); (fail_if_success (with_reducible show wpAny _ _ (getMethod (Value.ref _) (Str.ofString "values") _) _ _ _)); (fail_if_success (with_reducible show wpAny _ _ (call (Value.builtin "dict.items") _) _ _ _)); (fail_if_success (with_reducible show wpAny _ _ (call (Value.builtin "dict.values") _) _ _ _)); (fail_if_success (with_reducible show wpAny _ _ (compareOp CmpOp.In (Value.ref _) (Value.ref _)) _ _ _)); (fail_if_success (with_reducible show wpAny _ _ (setItem (Value.ref _) (Value.ref _) _) _ _ _)); (fail_if_success (with_reducible show wpAny _ _ (subscriptTail _ _ (Value.ref _) (Value.ref _)) _ _ _)); (fail_if_success (with_reducible show wpAny _ _ (eval (Expr.Name (Str.ofString "k") _) (compEnvC _ _ _ _)) _ _ _)); (fail_if_success (with_reducible show wpAny _ _ (call (Value.builtin "list.append") _ _) _ _ _)); (fail_if_success (with_reducible show wpAny _ _ (subscriptTail _ (Expr.Slice _ _ _ _) (Value.ref _) (Value.ref _)) _ _ _)); (fail_if_success (with_reducible show wpAny _ _ (compareOp CmpOp.NotEq (Value.ref _) (Value.ref _)) _ _ _)); (fail_if_success (with_reducible show wpAny _ _ (compareOp CmpOp.Eq (Value.ref _) (Value.ref _)) _ _ _)); (fail_if_success (with_reducible show wpAny _ _ (compareOp CmpOp.Lt (Value.ref _) (Value.ref _)) _ _ _)); (fail_if_success (with_reducible show wpAny _ _ (call (Value.type "enumerate") _ _) _ _ _)); (fail_if_success (with_reducible show wpAny _ _ (exec (Stmt.While _ _ _ _) _) _ _ _)); (fail_if_success (with_reducible show wpAny _ _ (exec (Stmt.For _ _ _ _ _) _) _ _ _)); (fail_if_success (with_reducible show wpAny _ _ (call (Value.ref _) _ _) _ _ _)); (fail_if_success (with_reducible show wpAny _ _ (eval (Expr.ListComp _ _ _ _) _) _ _ _)); (fail_if_success (with_reducible show wpAny _ _ (subscriptTail _ _ (Value.ref _) (Value.int _ _)) _ _ _)); (fail_if_success (with_reducible show wpAny _ _ (setItem (Value.ref _) (Value.int _ _) _) _ _ _)); (fail_if_success (with_reducible show TupStores _ _ _ _ _ _ _ _)); (fail_if_success (with_reducible show wpAny _ _ (call (Value.builtin "len") _ _) _ _ _)); (fail_if_success (with_reducible show wpAny _ _ (call (Value.builtin "min") _ _) _ _ _)); (fail_if_success (with_reducible show wpAny _ _ (call (Value.builtin "max") _ _) _ _ _)); (fail_if_success (with_reducible show wpAny _ _ (call (Value.type "dict") _ _) _ _ _)); (fail_if_success (with_reducible show wpAny _ _ (eval (Expr.Dict _ _ _) _) _ _ _)); (fail_if_success (with_reducible show wpAny _ _ (newTuple _) _ _ _)); walk1; (try dsimp only)))
          have hpos : dd > 0 := by simpa using hq87
          obtain ⟨N89, hoff89⟩ := comp_new (new := [(P89, _), (K88, _)]) N89 (by
            intro q hq p hp
            simp only [List.mem_cons, List.not_mem_nil, or_false] at hq
            rcases hq with rfl | rfl
            · exact hP89 p (.tail _ hp)
            · exact hK88 p hp) hown hoff
          refine CompQ.intro F89 N89 hoff89 ⟨fun q hq => .tail _ (.tail _ (hsub q hq)), ?_⟩
          rw [if_pos hpos]
          exact (hys.mono fun v t r => r.mono fun q hq => .tail _ (.tail _ hq)).append (.cons ⟨P89, K88, _, _, _, rfl, .head _, rfl, rfl, _, .tail _ (.head _), rfl, _, _, rfl, key_items⟩ .nil)
        rintro D90 h90 tk90 ys90 nx90 F90 N90 hq90 ⟨hsub90, hys90⟩
        rw [hvl, List.take_length] at hys90
        clear F85 N85
        have N90' : News _ _ _ nx90 := fun q hq => N90 q (.tail _ hq)
        have hdgl := degT_le ds
        repeat' (first | (k_unfold; (try dsimp only)) | ((fail_if_success (with_reducible show wpAny _ _ (getMethod (Value.ref _) (Str.ofString "items") _) _ _ _)); (fail_if_success (with_reducible show wpAny _ _ (getMethod (Value.ref _) (Str.ofString "values") _) _ _ _)); (fail_if_success (with_reducible show wpAny _ _ (call (Value.builtin "dict.items") _) _ _ _)); (fail_if_success (with_reducible show wpAny _ _ (call (Value.builtin "dict.values") _) _ _ _)); (fail_if_success (with_reducible show wpAny _ _ (compareOp CmpOp.In (Value.ref _) (Value.ref _)) _ _ _)); (fail_if_success (with_reducible show wpAny _ _ (setItem (Value.ref _) (Value.ref _) _) _ _ _)); (fail_if_success (with_reducible show wpAny _ _ (subscriptTail _ _ (Value.ref _) (Value.ref _)) _ _ _)); (fail_if_success (with_reducible show wpAny _ _ (eval (Expr.Name (Str.ofString "k") _) (compEnvC _ _ _ _)) _ _ _)); (fail_if_success (with_reducible show wpAny _ _ (call (Value.builtin "list.append") _ _) _ _ _)); (fail_if_success (with_reducible show wpAny _ _ (subscriptTail _ (Expr.Slice _ _ _ _) (Value.ref _) (Value.ref _)) _ _ _)); (fail_if_success (with_reducible show wpAny _ _ (compareOp CmpOp.NotEq (Value.ref _) (Value.ref _)) _ _ _)); (fail_if_success (with_reducible show wpAny _ _ (compareOp CmpOp.Eq (Value.ref _) (Value.ref _)) _ _ _)); (fail_if_success (with_reducible show wpAny _ _ (compareOp CmpOp.Lt (Value.ref _) (Value.ref _)) _ _ _)); (fail_if_success (with_reducible show wpAny _ _ (call (Value.type "enumerate") _ _) _ _ _)); (fail_if_success (with_reducible show wpAny _ _ (exec (Stmt.While _ _ _ _) _) _ _ _)); (fail_if_success (with_reducible show wpAny _ _ (exec (Stmt.For _ _ _ _ _) _) _ _ _)); (fail_if_success (with_reducible show wpAny _ _ (call (Value.ref _) _ _) _ _ _)); (fail_if_success (with_reducible show wpAny _ _ (eval (Expr.ListComp _ _ _ _) _) _ _ _)); (fail_if_success (with_reducible show wpAny _ _ (subscriptTail _ _ (Value.ref _) (Value.int _ _)) _ _ _)); (fail_if_success (with_reducible show wpAny _ _ (setItem (Value.ref _) (Value.int _ _) _) _ _ _)); (fail_if_success (with_reducible show TupStores _ _ _ _ _ _ _ _)); (fail_if_success (with_reducible show wpAny _ _ (call (Value.builtin "len") _ _) _ _ _)); (fail_if_success (with_reducible show wpAny _ _ (call (Value.builtin "min") _ _) _ _ _)); (fail_if_success (with_reducible show wpAny _ _ (call (Value.builtin "max") _ _) _ _ _)); (fail_if_success (with_reducible show wpAny _ _ (call (Value.type "dict") _ _) _ _ _)); (fail_if_success (with_reducible show wpAny _ _ (eval (Expr.Dict _ _ _) _) _ _ _)); walk1; (try dsimp only)))
        refine call_dict_pairs (KP := KeyIn PySem.Challenge.rw_zs0001_01.row.prog w0 nx90) rfl (un_law10 _) (N90 _ (.head _)).1 rfl rfl rfl (F90.notModules hbig) (fun ks b k => k.key N90') (hys90.mono fun v t r => r.at N90') (by simp only [sizeLine_eq]; omega) ?_
        intro d91 h91 tk91 o91 up91 hn91 l91 ho91 ht91
        have F91 := F90.keeps up91
        have N91 := N90'.keeps up91
        clear F90 N90 N90' up91
        repeat' (first | (k_unfold; (try dsimp only)) | ((fail_if_success (with_reducible show wpAny _ _ (getMethod (Value.ref _) (Str.ofString "items") _) _ _ _)); (fail_if_success (with_reducible show wpAny _ _ (getMethod (Value.ref _) (Str.ofString "values") _) _ _ _)); (fail_if_success (with_reducible show wpAny _ _ (call (Value.builtin "dict.items") _) _ _ _)); (fail_if_success (with_reducible show wpAny _ _ (call (Value.builtin "dict.values") _) _ _ _)); (fail_if_success (with_reducible show wpAny _ _ (compareOp CmpOp.In (Value.ref _) (Value.ref _)) _ _ _)); (fail_if_success (with_reducible show wpAny _ _ (setItem (Value.ref _) (Value.ref _) _) _ _ _)); (fail_if_success (with_reducible show wpAny _ _ (subscriptTail _ _ (Value.ref _) (Value.ref _)) _ _ _)); (fail_if_success (with_reducible show wpAny _ _ (eval (Expr.Name (Str.ofString "k") _) (compEnvC _ _ _ _)) _ _ _)); (fail_if_success (with_reducible show wpAny _ _ (call (Value.builtin "list.append") _ _) _ _ _)); (fail_if_success (with_reducible show wpAny _ _ (subscriptTail _ (Expr.Slice _ _ _ _) (Value.ref _) (Value.ref _)) _ _ _)); (fail_if_success (with_reducible show wpAny _ _ (compareOp CmpOp.NotEq (Value.ref _) (Value.ref _)) _ _ _)); (fail_if_success (with_reducible show wpAny _ _ (compareOp CmpOp.Eq (Value.ref _) (Value.ref _)) _ _ _)); (fail_if_success (with_reducible show wpAny _ _ (compareOp CmpOp.Lt (Value.ref _) (Value.ref _)) _ _ _)); (fail_if_success (with_reducible show wpAny _ _ (call (Value.type "enumerate") _ _) _ _ _)); (fail_if_success (with_reducible show wpAny _ _ (exec (Stmt.While _ _ _ _) _) _ _ _)); (fail_if_success (with_reducible show wpAny _ _ (exec (Stmt.For _ _ _ _ _) _) _ _ _)); (fail_if_success (with_reducible show wpAny _ _ (call (Value.ref _) _ _) _ _ _)); (fail_if_success (with_reducible show wpAny _ _ (eval (Expr.ListComp _ _ _ _) _) _ _ _)); (fail_if_success (with_reducible show wpAny _ _ (subscriptTail _ _ (Value.ref _) (Value.int _ _)) _ _ _)); (fail_if_success (with_reducible show wpAny _ _ (setItem (Value.ref _) (Value.int _ _) _) _ _ _)); (fail_if_success (with_reducible show TupStores _ _ _ _ _ _ _ _)); (fail_if_success (with_reducible show wpAny _ _ (call (Value.builtin "len") _ _) _ _ _)); (fail_if_success (with_reducible show wpAny _ _ (call (Value.builtin "min") _ _) _ _ _)); (fail_if_success (with_reducible show wpAny _ _ (call (Value.builtin "max") _ _) _ _ _)); (fail_if_success (with_reducible show wpAny _ _ (call (Value.type "dict") _ _) _ _ _)); (fail_if_success (with_reducible show wpAny _ _ (eval (Expr.Dict _ _ _) _) _ _ _)); walk1; (try dsimp only)))
        show wpAny _ _ (richCompare .Eq (.ref dW) (.ref d91)) _ _ _
        refine tab_eq lW l91 (N91 _ (hsub90 _ hdW)).1 ho91 tW ht91 (fun _ _ k => (k.mono hsub90).key N91) (fun _ _ k => k.key N91) (un_law10 _) (p_whole hds htd) ?_
        repeat' (first | (k_unfold; (try dsimp only)) | ((fail_if_success (with_reducible show wpAny _ _ (getMethod (Value.ref _) (Str.ofString "items") _) _ _ _)); (fail_if_success (with_reducible show wpAny _ _ (getMethod (Value.ref _) (Str.ofString "values") _) _ _ _)); (fail_if_success (with_reducible show wpAny _ _ (call (Value.builtin "dict.items") _) _ _ _)); (fail_if_success (with_reducible show wpAny _ _ (call (Value.builtin "dict.values") _) _ _ _)); (fail_if_success (with_reducible show wpAny _ _ (compareOp CmpOp.In (Value.ref _) (Value.ref _)) _ _ _)); (fail_if_success (with_reducible show wpAny _ _ (setItem (Value.ref _) (Value.ref _) _) _ _ _)); (fail_if_success (with_reducible show wpAny _ _ (subscriptTail _ _ (Value.ref _) (Value.ref _)) _ _ _)); (fail_if_success (with_reducible show wpAny _ _ (eval (Expr.Name (Str.ofString "k") _) (compEnvC _ _ _ _)) _ _ _)); (fail_if_success (with_reducible show wpAny _ _ (call (Value.builtin "list.append") _ _) _ _ _)); (fail_if_success (with_reducible show wpAny _ _ (subscriptTail _ (Expr.Slice _ _ _ _) (Value.ref _) (Value.ref _)) _ _ _)); (fail_if_success (with_reducible show wpAny _ _ (compareOp CmpOp.NotEq (Value.ref _) (Value.ref _)) _ _ _)); (fail_if_success (with_reducible show wpAny _ _ (compareOp CmpOp.Eq (Value.ref _) (Value.ref _)) _ _ _)); (fail_if_success (with_reducible show wpAny _ _ (compareOp CmpOp.Lt (Value.ref _) (Value.ref _)) _ _ _)); (fail_if_success (with_reducible show wpAny _ _ (call (Value.type "enumerate") _ _) _ _ _)); (fail_if_success (with_reducible show wpAny _ _ (exec (Stmt.While _ _ _ _) _) _ _ _)); (fail_if_success (with_reducible show wpAny _ _ (exec (Stmt.For _ _ _ _ _) _) _ _ _)); (fail_if_success (with_reducible show wpAny _ _ (call (Value.ref _) _ _) _ _ _)); (fail_if_success (with_reducible show wpAny _ _ (eval (Expr.ListComp _ _ _ _) _) _ _ _)); (fail_if_success (with_reducible show wpAny _ _ (subscriptTail _ _ (Value.ref _) (Value.int _ _)) _ _ _)); (fail_if_success (with_reducible show wpAny _ _ (setItem (Value.ref _) (Value.int _ _) _) _ _ _)); (fail_if_success (with_reducible show TupStores _ _ _ _ _ _ _ _)); (fail_if_success (with_reducible show wpAny _ _ (call (Value.builtin "len") _ _) _ _ _)); (fail_if_success (with_reducible show wpAny _ _ (call (Value.builtin "min") _ _) _ _ _)); (fail_if_success (with_reducible show wpAny _ _ (call (Value.builtin "max") _ _) _ _ _)); (fail_if_success (with_reducible show wpAny _ _ (call (Value.type "dict") _ _) _ _ _)); (fail_if_success (with_reducible show wpAny _ _ (eval (Expr.Dict _ _ _) _) _ _ _)); walk1; (try dsimp only)))
        refine count_spec (X0.keeps F91.keep) (T0.keeps F91.keep) (by decide) (by decide) (N91 _ (hsub90 _ hdW)).1 lW (tW.mono fun _ _ k => (k.mono hsub90).key N91) ?_
        intro h92 tk92 tok92 up92
        have F92 := F91.keeps up92
        have N92 := N91.keeps up92
        clear F91 N91 up92
        rw [p_total hds htd]
        repeat' (first | (k_unfold; (try dsimp only)) | ((fail_if_success (with_reducible show wpAny _ _ (getMethod (Value.ref _) (Str.ofString "items") _) _ _ _)); (fail_if_success (with_reducible show wpAny _ _ (getMethod (Value.ref _) (Str.ofString "values") _) _ _ _)); (fail_if_success (with_reducible show wpAny _ _ (call (Value.builtin "dict.items") _) _ _ _)); (fail_if_success (with_reducible show wpAny _ _ (call (Value.builtin "dict.values") _) _ _ _)); (fail_if_success (with_reducible show wpAny _ _ (compareOp CmpOp.In (Value.ref _) (Value.ref _)) _ _ _)); (fail_if_success (with_reducible show wpAny _ _ (setItem (Value.ref _) (Value.ref _) _) _ _ _)); (fail_if_success (with_reducible show wpAny _ _ (subscriptTail _ _ (Value.ref _) (Value.ref _)) _ _ _)); (fail_if_success (with_reducible show wpAny _ _ (eval (Expr.Name (Str.ofString "k") _) (compEnvC _ _ _ _)) _ _ _)); (fail_if_success (with_reducible show wpAny _ _ (call (Value.builtin "list.append") _ _) _ _ _)); (fail_if_success (with_reducible show wpAny _ _ (subscriptTail _ (Expr.Slice _ _ _ _) (Value.ref _) (Value.ref _)) _ _ _)); (fail_if_success (with_reducible show wpAny _ _ (compareOp CmpOp.NotEq (Value.ref _) (Value.ref _)) _ _ _)); (fail_if_success (with_reducible show wpAny _ _ (compareOp CmpOp.Eq (Value.ref _) (Value.ref _)) _ _ _)); (fail_if_success (with_reducible show wpAny _ _ (compareOp CmpOp.Lt (Value.ref _) (Value.ref _)) _ _ _)); (fail_if_success (with_reducible show wpAny _ _ (call (Value.type "enumerate") _ _) _ _ _)); (fail_if_success (with_reducible show wpAny _ _ (exec (Stmt.While _ _ _ _) _) _ _ _)); (fail_if_success (with_reducible show wpAny _ _ (exec (Stmt.For _ _ _ _ _) _) _ _ _)); (fail_if_success (with_reducible show wpAny _ _ (call (Value.ref _) _ _) _ _ _)); (fail_if_success (with_reducible show wpAny _ _ (eval (Expr.ListComp _ _ _ _) _) _ _ _)); (fail_if_success (with_reducible show wpAny _ _ (subscriptTail _ _ (Value.ref _) (Value.int _ _)) _ _ _)); (fail_if_success (with_reducible show wpAny _ _ (setItem (Value.ref _) (Value.int _ _) _) _ _ _)); (fail_if_success (with_reducible show TupStores _ _ _ _ _ _ _ _)); (fail_if_success (with_reducible show wpAny _ _ (call (Value.builtin "len") _ _) _ _ _)); (fail_if_success (with_reducible show wpAny _ _ (call (Value.builtin "min") _ _) _ _ _)); (fail_if_success (with_reducible show wpAny _ _ (call (Value.builtin "max") _ _) _ _ _)); (fail_if_success (with_reducible show wpAny _ _ (call (Value.type "dict") _ _) _ _ _)); (fail_if_success (with_reducible show wpAny _ _ (eval (Expr.Dict _ _ _) _) _ _ _)); walk1; (try dsimp only)))
        refine len_list (news_list N92 (hsub90 _ (hsub85 _ hal71))) (by simp only [List.size_toArray]; omega) ?_
        simp only [List.size_toArray, hil]
        repeat' (first | (k_unfold; (try dsimp only)) | ((fail_if_success (with_reducible show wpAny _ _ (getMethod (Value.ref _) (Str.ofString "items") _) _ _ _)); (fail_if_success (with_reducible show wpAny _ _ (getMethod (Value.ref _) (Str.ofString "values") _) _ _ _)); (fail_if_success (with_reducible show wpAny _ _ (call (Value.builtin "dict.items") _) _ _ _)); (fail_if_success (with_reducible show wpAny _ _ (call (Value.builtin "dict.values") _) _ _ _)); (fail_if_success (with_reducible show wpAny _ _ (compareOp CmpOp.In (Value.ref _) (Value.ref _)) _ _ _)); (fail_if_success (with_reducible show wpAny _ _ (setItem (Value.ref _) (Value.ref _) _) _ _ _)); (fail_if_success (with_reducible show wpAny _ _ (subscriptTail _ _ (Value.ref _) (Value.ref _)) _ _ _)); (fail_if_success (with_reducible show wpAny _ _ (eval (Expr.Name (Str.ofString "k") _) (compEnvC _ _ _ _)) _ _ _)); (fail_if_success (with_reducible show wpAny _ _ (call (Value.builtin "list.append") _ _) _ _ _)); (fail_if_success (with_reducible show wpAny _ _ (subscriptTail _ (Expr.Slice _ _ _ _) (Value.ref _) (Value.ref _)) _ _ _)); (fail_if_success (with_reducible show wpAny _ _ (compareOp CmpOp.NotEq (Value.ref _) (Value.ref _)) _ _ _)); (fail_if_success (with_reducible show wpAny _ _ (compareOp CmpOp.Eq (Value.ref _) (Value.ref _)) _ _ _)); (fail_if_success (with_reducible show wpAny _ _ (compareOp CmpOp.Lt (Value.ref _) (Value.ref _)) _ _ _)); (fail_if_success (with_reducible show wpAny _ _ (call (Value.type "enumerate") _ _) _ _ _)); (fail_if_success (with_reducible show wpAny _ _ (exec (Stmt.While _ _ _ _) _) _ _ _)); (fail_if_success (with_reducible show wpAny _ _ (exec (Stmt.For _ _ _ _ _) _) _ _ _)); (fail_if_success (with_reducible show wpAny _ _ (call (Value.ref _) _ _) _ _ _)); (fail_if_success (with_reducible show wpAny _ _ (eval (Expr.ListComp _ _ _ _) _) _ _ _)); (fail_if_success (with_reducible show wpAny _ _ (subscriptTail _ _ (Value.ref _) (Value.int _ _)) _ _ _)); (fail_if_success (with_reducible show wpAny _ _ (setItem (Value.ref _) (Value.int _ _) _) _ _ _)); (fail_if_success (with_reducible show TupStores _ _ _ _ _ _ _ _)); (fail_if_success (with_reducible show wpAny _ _ (call (Value.builtin "len") _ _) _ _ _)); (fail_if_success (with_reducible show wpAny _ _ (call (Value.builtin "min") _ _) _ _ _)); (fail_if_success (with_reducible show wpAny _ _ (call (Value.builtin "max") _ _) _ _ _)); (fail_if_success (with_reducible show wpAny _ _ (call (Value.type "dict") _ _) _ _ _)); (fail_if_success (with_reducible show wpAny _ _ (eval (Expr.Dict _ _ _) _) _ _ _)); walk1; (try dsimp only)))
        simp only [beq_self_eq_true]
        rename Fr _ _ _ _ => Fz
        exact fin_true Fz (by assumption)
)
end Mine
end TLaw
theorem PySem.Challenge.cw_zs0001_01_holds : PySem.Challenge.rw_zs0001_01.Holds :=
  Mine.law
