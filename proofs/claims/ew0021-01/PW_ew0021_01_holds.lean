import PyProof.Rows.All
import Wide.All
import OpenK.AllK
import Wide.FinOn
import KE.KIntText
import PySem.Challenge.RW_ew0021_01
set_option Elab.async false
set_option rowWalk.seconds 0
section PartHead_
open PySem PySem.W PyProof.Rows
set_option maxRecDepth 100000
set_option maxHeartbeats 8000000
namespace Mine
open_top hd for PySem.Challenge.rw_ew0021_01
end Mine
end PartHead_
section PartB1_
open PySem PySem.W PyProof.Rows PySem.Calls PySem.Spec
set_option maxRecDepth 100000
set_option maxHeartbeats 8000000
namespace Mine
theorem fill : PySem.Challenge.rw_ew0021_01 = PySem.Challenge.rw_ew0021_01 ∧ hd.heap_39 = hd.heap_39 := by
  k_fill
  exact ⟨rfl, rfl⟩

def retv : Flow → Value
  | .ret v => v
  | _ => .none

/-- what a pure def of the text does with these values: it ends, keeps all that stood, and R holds of what it gives back -/
def Spc (w : World) (f : Addr) (vs : List Value) (d u : Nat) (Pre : Heap → Prop) (R : Heap → Value → Heap → Prop) : Prop :=
  ∀ (p : Program) (loose : List Str) (mean : ExcName → Option Value) (mg mb : Str → Option Value) (dp un : Nat) (gd : Option (List Code)) (cn : Str) (cs : Scope) (a : Addr) (ccd : Value) (cl : List (Str × Addr)) (outer : List Env) (A₀ : Around) (base h₀ : Heap) (L : Addr) (m : Str → Option Value) (s : Shared) (Q E : Value → Shared → Prop),
    Below A₀ base outer h₀ → Fr h₀ L s.heap m → (hd.heap_39 w.params).In h₀ → Top p loose mean mg mb h₀ → cs.kind = .function →
    dp + d < recursionLimit → un + u < cLine → Pre s.heap →
    (∀ v h' tk', (∀ b o, s.heap.get? b = some o → h'.get? b = some o) → R s.heap v h' → Q v { s with heap := h', toks := tk' }) →
    wpAny (model PySem.Challenge.rw_ew0021_01.row.prog w) (ktrTop dp un gd cn cs L a ccd cl outer) (call (.ref f) vs) Q E s

/-- a def's end -/
def Back (h₀ : Heap) (L : Addr) (R : Value → Heap → Prop) (s : Shared) (fl : Flow) (s' : Shared) : Prop :=
  ∃ h' tk' m', s' = { s with heap := h', toks := tk' } ∧ Fr h₀ L h' m' ∧ R (retv fl) h'
theorem Back.mk {h₀ : Heap} {L : Addr} {R : Value → Heap → Prop} {s : Shared} {fl : Flow} {h' : Heap} {tk' : Nat} {m' : Str → Option Value} (F : Fr h₀ L h' m') (r : R (retv fl) h') : Back h₀ L R s fl { s with heap := h', toks := tk' } :=
  ⟨h', tk', m', rfl, F, r⟩

theorem Spc.intro {w : World} {f : Addr} {vs : List Value} {d u : Nat} {Pre : Heap → Prop} {R : Heap → Value → Heap → Prop}
    {name qual : Str} {params : Arguments} {body : List Stmt} {scope : Scope} {dV kV doc pm cdv ct oc : Value} {an od : Option Addr} {osl : Array (Option Value)} (binds : List (Str × Value))
    (ho : (hd.heap_39 w.params).lookup f = some ⟨oc, od, .func (fnOf name qual params body scope dV kV doc pm an cdv ct), osl⟩) (hcd : codeIn (hd.heap_39 w.params) cdv qual = true)
    (hbind : bindArgs (fnOf name qual params body scope dV kV doc pm an cdv ct) ⟨vs, []⟩ = pure binds) (hloc : ∀ y ∈ binds, scope.names.lookup y.1 = some .local)
    (hco : scope.isCoroutine = false) (hgen : scope.isGenerator = false) (hk : scope.kind = .function) (hcell : ∀ x ∈ scope.names, x.2 ≠ .cell)
    (h : ∀ (p : Program) (loose : List Str) (mean : ExcName → Option Value) (mg mb : Str → Option Value) (dp un : Nat) (gd : Option (List Code)) (outer : List Env) (A₀ : Around) (base h₀ : Heap) (L : Addr) (s : Shared),
      Below A₀ base outer h₀ → Fr h₀ L s.heap (fun y => binds.reverse.lookup y) → News h₀ L s.heap [] → (hd.heap_39 w.params).In h₀ → Top p loose mean mg mb h₀ → dp + d < recursionLimit + 1 → un + u < cLine + 3 → Pre h₀ →
      wpAny (model PySem.Challenge.rw_ew0021_01.row.prog w) (ktrTop dp un gd qual scope L f cdv [] outer) (execs body (envOf qual scope L f cdv))
        (Back h₀ L (R h₀) s) (fun _ _ => False) s)
    (hd0 : 0 < d := by decide) : Spc w f vs d u Pre R := by
  intro p loose mean mg mb dp un gd cn cs a ccd cl outer A₀ base h₀ L m s Q E B F X T hke hd hu hp hret
  refine wpAny_call ?_
  refine codeAny_call_def (fd := fnOf name qual params body scope dV kV doc pm an cdv ct) (body := body) (binds := binds) ?_ (X.keeps F.keep _ _ ho) rfl (T.nolimit.keeps F.keep) (codeRec_of (X.keeps F.keep) hcd) rfl (BindsTo.of_eq hbind) hcell hloc (fun h₁ hns hk₁ => ?_) hco hgen hk
  · show dp < recursionLimit
    omega
  · have B' := pushX (env := envX cn cs L a ccd cl) B F rfl hke
    have F₁ : Fr s.heap s.heap.objs.size h₁ (fun y => binds.reverse.lookup y) := ⟨hns, hk₁, Nat.le_refl _⟩
    have h9 := h p loose mean mg mb (dp + 1) (un + 3) gd (envX cn cs L a ccd cl :: outer) (A₀.deeper (envX cn cs L a ccd cl)) base s.heap s.heap.objs.size { s with heap := h₁, toks := s.toks + binds.length } B' F₁ News.nil (X.keeps F.keep) (T.keeps F.keep) (by omega) (by omega) hp
    refine wpAny_mono (A := (ktrTop dp un gd cn cs L a ccd cl outer).deeper (envOf qual scope s.heap.objs.size f cdv)) h9 ?_ (fun _ _ x => x.elim)
    rintro fl s' ⟨h', tk', m', rfl, F', r⟩
    cases fl <;> exact hret _ h' tk' F'.keep r

theorem News.keeps {h₀ h h' : Heap} {L : Addr} {news : List (Addr × Obj)} (N : News h₀ L h news) (k : ∀ b o, h.get? b = some o → h'.get? b = some o) : News h₀ L h' news :=
  fun p hp => ⟨k _ _ (N p hp).1, (N p hp).2⟩

theorem Spc.use {w : World} {f : Addr} {vs : List Value} {d u : Nat} {Pre : Heap → Prop} {R : Heap → Value → Heap → Prop} (S : Spc w f vs d u Pre R)
    {p : Program} {loose : List Str} {mean : ExcName → Option Value} {mg mb : Str → Option Value} {dp un : Nat} {gd : Option (List Code)} {cn : Str} {cs : Scope} {a : Addr} {ccd : Value} {cl : List (Str × Addr)} {outer : List Env} {A₀ : Around} {base h₀ : Heap} {L : Addr} {m : Str → Option Value} {news : List (Addr × Obj)} {s : Shared} {Q E : Value → Shared → Prop}
    (B : Below A₀ base outer h₀) (F : Fr h₀ L s.heap m) (X : (hd.heap_39 w.params).In h₀) (N : News h₀ L s.heap news) (T : Top p loose mean mg mb h₀) (hke : cs.kind = .function)
    (hd : dp + d < recursionLimit) (hu : un + u < cLine) (hp : Pre s.heap)
    (hret : ∀ v h' tk', Fr h₀ L h' m → News h₀ L h' news → R s.heap v h' → Q v { s with heap := h', toks := tk' }) :
    wpAny (model PySem.Challenge.rw_ew0021_01.row.prog w) (ktrTop dp un gd cn cs L a ccd cl outer) (call (.ref f) vs) Q E s :=
  S p loose mean mg mb dp un gd cn cs a ccd cl outer A₀ base h₀ L m s Q E B F X T hke hd hu hp fun v h' tk' k r => hret v h' tk' (F.keeps k) (N.keeps k) r

def Stop (P : Prop) : Prop := P
theorem Stop.mk {P : Prop} (h : Stop P) : P := h
theorem Stop.go {P : Prop} (h : P) : Stop P := h

/-- a turn's end -/
def TurnEnd {σ : Type} (ps : σ → List (Str × Value)) (nw : σ → List (Addr × Obj)) (μ : σ → Nat) (P : σ → Prop) (h₀ : Heap) (L : Addr) (s : Shared) (c : σ) (s₃ : Shared) : Prop :=
  ∃ c' h' tk' m', s₃ = { s with heap := h', toks := tk' } ∧ Fr h₀ L h' m' ∧ News h₀ L h' (nw c') ∧ (∀ p ∈ ps c', m' p.1 = some p.2) ∧ P c' ∧ μ c' < μ c
theorem TurnEnd.mk {σ : Type} {ps : σ → List (Str × Value)} {nw : σ → List (Addr × Obj)} {μ : σ → Nat} {P : σ → Prop} {h₀ : Heap} {L : Addr} {s : Shared} {c : σ} (c' : σ) {h' : Heap} {tk' : Nat} {m' : Str → Option Value}
    (F : Fr h₀ L h' m') (N : News h₀ L h' (nw c')) (hm : ∀ p ∈ ps c', m' p.1 = some p.2) (hp : P c') (hμ : μ c' < μ c) : TurnEnd ps nw μ P h₀ L s c { s with heap := h', toks := tk' } :=
  ⟨c', h', tk', m', rfl, F, N, hm, hp, hμ⟩

theorem fr_of_pins {h₀ h : Heap} {L : Addr} {m : Str → Option Value} {ps : List (Str × Value)} (F : Fr h₀ L h m) (hm : ∀ p ∈ ps, m p.1 = some p.2) : Fr h₀ L h (kstB m ps) := by
  have e : kstB m ps = m := funext fun z => kstB_eq hm fun _ => rfl
  rw [e]; exact F

/-- a while, by a state of one's own -/
theorem While_of {σ : Type} {prog : Program} {w : World} {A : Around} {s : Shared} {env : Env} {h₀ : Heap} {L : Addr} {Q : Flow → Shared → Prop} {test : Expr} {body : List Stmt} {pos : Pos} {m : Str → Option Value}
    (ps : σ → List (Str × Value)) (nw : σ → List (Addr × Obj)) (μ : σ → Nat) (P : σ → Prop) (c₀ : σ)
    (F : Fr h₀ L s.heap m) (N : News h₀ L s.heap (nw c₀)) (h0 : ∀ p ∈ ps c₀, m p.1 = some p.2) (hp0 : P c₀)
    (turn : ∀ (c : σ) u h₁ tk₁, P c → Fr h₀ L h₁ (kstB u (ps c)) → News h₀ L h₁ (nw c) →
      wpAny (model prog w) A (isTrue test env (eval test env)) (fun b s₂ =>
        if b = true then wpAny (model prog w) A (execs body env) (fun f s₃ => match f with
            | .ret v => Q (.ret v) s₃
            | .brk => Q .next s₃
            | _ => TurnEnd ps nw μ P h₀ L s c s₃) (fun _ _ => False) s₂ else Q .next s₂) (fun _ _ => False) { s with heap := h₁, toks := tk₁ }) :
    wpAny (model prog w) A (exec (.While test body [] pos) env) Q (fun _ _ => False) s := by
  refine While_inv2 (fun n m nx => ∃ c : σ, nx = nw c ∧ μ c = n ∧ P c ∧ ∀ p ∈ ps c, m p.1 = some p.2) F N ⟨c₀, rfl, rfl, hp0, h0⟩ ?_ PassesOwn.never
  rintro n m₁ nx h tk F₁ N₁ ⟨c, rfl, rfl, hP, hm⟩
  refine wpAny_mono (turn c m₁ h tk hP (fr_of_pins F₁ hm) N₁) (fun b s₂ p => ?_) fun _ _ x => x
  cases b with
  | false => simpa using p
  | true =>
    simp only [if_true] at p ⊢
    refine wpAny_mono p (fun f s₃ q => ?_) fun _ _ x => x
    cases f with
    | ret v => exact q
    | brk => exact q
    | next =>
      obtain ⟨c', h', tk', m', rfl, F', N', hm', hP', hμ⟩ := q
      exact ⟨h', tk', m', nw c', μ c', rfl, F', N', hμ, c', rfl, rfl, hP', hm'⟩
    | cont =>
      obtain ⟨c', h', tk', m', rfl, F', N', hm', hP', hμ⟩ := q
      exact ⟨h', tk', m', nw c', μ c', rfl, F', N', hμ, c', rfl, rfl, hP', hm'⟩

end Mine
end PartB1_
section PartP1_
open PySem PySem.W PyProof.Rows PySem.Calls PySem.Spec Builtin Builtin.Str StrLaws
set_option maxRecDepth 100000
set_option maxHeartbeats 4000000
namespace Mine

/-- a text by its signs -/
def T (l : List Nat) : Str := ⟨l.toArray⟩
@[simp] theorem T_len (l : List Nat) : (T l).length = l.length := by simp [T, Str.length]
@[simp] theorem T_list (l : List Nat) : (T l).cps.toList = l := by simp [T]
@[simp] theorem T_inj {a b : List Nat} : T a = T b ↔ a = b := by
  constructor
  · intro h; have := congrArg (fun x => x.cps.toList) h; simpa using this
  · rintro rfl; rfl
theorem T_of (x : Str) : x = T x.cps.toList := by simp [T]
theorem T_beq (a b : List Nat) : (T a == T b) = (a == b) := by
  rw [Bool.eq_iff_iff, beq_iff_eq, beq_iff_eq, T_inj]
theorem T_bne (a b : List Nat) : (T a != T b) = (a != b) := by
  unfold bne; rw [T_beq]
theorem T_append (a b : List Nat) : T a ++ T b = T (a ++ b) := by
  show Str.mk _ = Str.mk _
  simp [T]
theorem T_nil : T [] = ⟨#[]⟩ := rfl

theorem item_T {l : List Nat} {j : Nat} {c : Nat} (h : l[j]? = some c) : Txt.item (T l) (j : Int) = T [c] := by
  unfold Txt.item Txt.charAt
  have hj : j < l.length := by
    rcases Nat.lt_or_ge j l.length with h1 | h1
    · exact h1
    · rw [List.getElem?_eq_none h1] at h; cases h
  rw [at_nonneg (n := c) (by omega) (by simp [T]; simpa using h)]
  rfl

theorem slice_T (l : List Nat) {a b : Nat} (hab : a ≤ b) (hb : b ≤ l.length) : Txt.slice (T l) (some (a : Int)) (some (b : Int)) = T ((l.drop a).take (b - a)) := by
  have := sliceText_nat (T l) hab (by simpa using hb)
  simp only [T_list] at this
  exact this
theorem slice_past (l : List Nat) {a b : Nat} (ha : l.length ≤ a) (hab : a ≤ b) : Txt.slice (T l) (some (a : Int)) (some (b : Int)) = T [] := by
  unfold Txt.slice
  have e : strSliceIndices (some (a : Int)) (some (b : Int)) 1 (T l).length = [] := by
    rw [T_len]
    unfold strSliceIndices sliceRange
    have h1 : ¬ ((a : Int) < 0) := by omega
    have h2 : ¬ ((b : Int) < 0) := by omega
    simp [h1, h2]
    omega
  rw [e]
  split
  · rename_i h
    have : l = [] := List.length_eq_zero_iff.mp (by have h' := h; simp at h'; omega)
    subst this; rfl
  · rfl
/-- text[a:a+1] -/
theorem slice_one (l : List Nat) (a : Nat) : Txt.slice (T l) (some (a : Int)) (some ((a : Int) + 1)) = T ((l.drop a).take 1) := by
  rcases Nat.lt_or_ge a l.length with h | h
  · have := slice_T l (show a ≤ a + 1 by omega) (by omega : a + 1 ≤ l.length)
    rw [show a + 1 - a = 1 by omega] at this
    exact this
  · have := slice_past l h (Nat.le_succ a)
    rw [List.drop_eq_nil_of_le h]
    exact this

theorem inLit (x : List Nat) (c : Nat) : (Builtin.Str.occurrences (T x) (T [c]) 0 (T x).length 1).isEmpty = !decide (c ∈ x) := by
  have h := StrLaws.found_one (T x) c
  rw [T_list] at h
  rw [← h, Bool.not_not]
  rfl

theorem join_nil_ones (ls : List Nat) : Txt.join (T []) (ls.map fun c => T [c]) = T ls := by
  unfold Txt.join
  rw [StrLaws.glued_eq_join]
  induction ls with
  | nil => rfl
  | cons c r ih =>
    cases r with
    | nil => rfl
    | cons d r =>
      show T [c] ++ T [] ++ Str.join (T []) ((d :: r).map fun c => T [c]) = _
      rw [ih, T_append, T_append]; rfl
theorem replace_T (l : List Nat) (c : Nat) : Txt.replace (T l) (T [c]) (T [c, c]) = T (dbl c l) := by
  rw [T_of (Txt.replace (T l) (T [c]) (T [c, c])), T_inj]
  have := StrLaws.replace_double (T l) c
  rw [T_list] at this
  exact this

def isB (c : Nat) : Bool := decide (c ∈ [32, 9, 10, 13, 11, 12])
theorem lit_blank : Str.ofString " \t\n\r\x0b\x0c" = T [32, 9, 10, 13, 11, 12] := by decide +kernel
def blanks (l : List Nat) (i : Nat) : Nat := i + ((l.drop i).takeWhile isB).length
theorem blanks_step {l : List Nat} {j c : Nat} (h : l[j]? = some c) (hb : isB c = true) : blanks l (j + 1) = blanks l j := by
  unfold blanks
  have e : l.drop j = c :: l.drop (j + 1) := by
    obtain ⟨hj, rfl⟩ := List.getElem?_eq_some_iff.mp h
    exact List.drop_eq_getElem_cons hj
  rw [e, List.takeWhile_cons, hb]
  simp
  omega
theorem blanks_stop {l : List Nat} {j c : Nat} (h : l[j]? = some c) (hb : isB c = false) : blanks l j = j := by
  unfold blanks
  have e : l.drop j = c :: l.drop (j + 1) := by
    obtain ⟨hj, rfl⟩ := List.getElem?_eq_some_iff.mp h
    exact List.drop_eq_getElem_cons hj
  rw [e, List.takeWhile_cons, hb]
  simp
theorem blanks_end {l : List Nat} {j : Nat} (h : l.length ≤ j) : blanks l j = j := by
  unfold blanks
  rw [List.drop_eq_nil_of_le h]
  simp

/-- what stands in quotes q, from behind the first one on: the signs, and how many were read -/
def unq (q : Nat) : List Nat → List Nat × Nat
  | [] => ([], 0)
  | [c] => if c = q then ([], 0) else ([c], 1)
  | c :: d :: r => if c = q then (if d = q then (q :: (unq q r).1, (unq q r).2 + 2) else ([], 0)) else (c :: (unq q (d :: r)).1, (unq q (d :: r)).2 + 1)
theorem strs_snoc {vs : List Value} {ys : List Str} (h : StrsAre vs ys) (y : Str) (t : Tok) : StrsAre (vs ++ [.str y t]) (ys ++ [y]) := by
  induction h with
  | nil => exact .cons y t .nil
  | cons z u _ ih => exact .cons z u ih
/-- the signs of acc, each as a text -/
def Sgs (vs : Array Value) (acc : List Nat) : Prop := StrsAre vs.toList (acc.map fun d => T [d])
theorem Sgs.nil : Sgs #[] [] := StrsAre.nil
theorem Sgs.push {vs : Array Value} {acc : List Nat} (h : Sgs vs acc) {x : Str} {c : Nat} (e : x = T [c]) (t : Tok) : Sgs (vs.push (.str x t)) (acc ++ [c]) := by
  subst e
  unfold Sgs
  rw [Array.toList_push, List.map_append]
  exact strs_snoc h _ _
theorem Sgs.size {vs : Array Value} {acc : List Nat} (h : Sgs vs acc) : vs.size = acc.length := by
  have := StrsAre.len_eq h
  simpa using this
theorem unq_other {q c : Nat} {r : List Nat} (h : c ≠ q) : unq q (c :: r) = (c :: (unq q r).1, (unq q r).2 + 1) := by
  cases r with
  | nil => simp [unq, h]
  | cons d r => simp [unq, h]
theorem unq_double {q : Nat} {r : List Nat} : unq q (q :: q :: r) = (q :: (unq q r).1, (unq q r).2 + 2) := by simp [unq]
theorem unq_stop {q : Nat} {r : List Nat} (h : r.take 1 ≠ [q]) : unq q (q :: r) = ([], 0) := by
  cases r with
  | nil => simp [unq]
  | cons d r =>
    have : d ≠ q := fun e => h (by simp [e])
    simp [unq, this]
theorem drop_at {l : List Nat} {j c : Nat} (h : l[j]? = some c) : l.drop j = c :: l.drop (j + 1) := by
  obtain ⟨hj, rfl⟩ := List.getElem?_eq_some_iff.mp h
  exact List.drop_eq_getElem_cons hj
end Mine
end PartP1_
section PartR1_
open PySem PySem.W PyProof.Rows PySem.Calls PySem.Spec
set_option maxRecDepth 100000
set_option maxHeartbeats 4000000
namespace Mine
section
variable {prog : Program} {w : World} {A : Around} {E : Value → Shared → Prop} {s : Shared} {h₀ : Heap} {L : Addr} {m : Str → Option Value} {news : List (Addr × Obj)} {value slice : Expr} {Q : Value → Shared → Prop}

/-- one sign of a text -/
theorem r_item {l : List Nat} {j c : Nat} {z : Int} {t u : Tok} (hz : z = j) (h : l[j]? = some c) (hl : (T l).length < 2 ^ 24) (hQ : Q (.str (T [c]) s.toks) { s with toks := s.toks + 1 })
    (hs : subscripted slice false (.str (T l) t) (.int z u) = operate [.str (T l) t, .int z u] (getItem (.str (T l) t) (.int z u)) := by with_unfolding_all rfl)
    (ht : ∀ r, letTemporaryGo value (.str (T l) t) r = pure () := by intro _; with_unfolding_all rfl) :
    wpAny (model prog w) A (subscriptTail value slice (.str (T l) t) (.int z u)) Q E s := by
  subst hz
  have hj : j < l.length := (List.getElem?_eq_some_iff.mp h).1
  have hl' : l.length < 2 ^ 24 := by simpa using hl
  refine item_str (fitsSsize_of (N := 9223372036854775808) (by omega) (by omega) (Int.le_refl _)) (by rw [T_len]; omega) (by rw [T_len]; omega) (fun _ => ?_) hs ht
  rw [item_T h]; exact hQ

/-- the slice of one sign at most -/
theorem r_slice1 {l y : List Nat} {k : Nat} {i j : Int} {t ui uj : Tok} (hi : i = k) (hj : j = (k : Int) + 1) (hy : (l.drop k).take 1 = y) (hl : (T l).length < 2 ^ 24)
    (F : Fr h₀ L s.heap m) (N : News h₀ L s.heap news) (hQ : ∀ h' t' k, Fr h₀ L h' m → News h₀ L h' news → Q (.str (T y) t') { s with heap := h', toks := k })
    (hs : subscripted slice false (.str (T l) t) (.ref s.heap.objs.size) = operate [.ref s.heap.objs.size, .str (T l) t] (getItem (.str (T l) t) (.ref s.heap.objs.size)) := by with_unfolding_all rfl)
    (ht : ∀ r, letTemporaryGo value (.str (T l) t) r = pure () := by intro _; with_unfolding_all rfl) :
    wpAny (model prog w) A (subscriptTail value slice (.str (T l) t) (.ref s.heap.objs.size)) Q E { s with heap := s.heap.push { cls := .type "slice", data := .fields #[.int i ui, .int j uj, .none] } } := by
  subst hi hj hy
  refine slice_strN_ss F N (fun h' t' k' F' N' => ?_) hs ht (by rw [sizeLine_eq]; omega)
  rw [slice_one]
  exact hQ h' t' k' F' N'

theorem r_eq {a b : List Nat} {t u : Tok} (h : Q (.bool (a == b)) s) : wpAny (model prog w) A (compareOp .Eq (.str (T a) t) (.str (T b) u)) Q E s := by
  refine PyProof.Rows.eq_str ?_
  rw [T_beq]; exact h
theorem r_ne {a b : List Nat} {t u : Tok} (h : Q (.bool (a != b)) s) : wpAny (model prog w) A (compareOp .NotEq (.str (T a) t) (.str (T b) u)) Q E s := by
  refine PyProof.Rows.ne_str ?_
  rw [T_bne]; exact h
theorem r_in {a : List Nat} {c : Nat} {t u : Tok} (h : Q (.bool (decide (c ∈ a))) s) : wpAny (model prog w) A (compareOp .In (.str (T [c]) u) (.str (T a) t)) Q E s := by
  refine PyProof.Rows.in_str ?_
  rw [inLit, Bool.not_not]; exact h
theorem r_notIn {a : List Nat} {c : Nat} {t u : Tok} (h : Q (.bool (!decide (c ∈ a))) s) : wpAny (model prog w) A (compareOp .NotIn (.str (T [c]) u) (.str (T a) t)) Q E s := by
  refine PyProof.Rows.notIn_str ?_
  rw [inLit, Bool.not_not]; exact h
/-- a written text -/
theorem r_const {x : Str} {a : List Nat} {k : Nat} {pos : Pos} {env : Env} (e : x = T a) (h : Q (.str (T a) s.toks) { s with toks := s.toks + 1 }) : wpAny (model prog w) A (eval (.Constant (.str x) k pos) env) Q E s := by
  subst e; exact Constant_str h
theorem r_slice2 {l y : List Nat} {k : Nat} {i j : Int} {t ui uj : Tok} (hi : i = (k : Int) + 1) (hj : j = (k : Int) + 2) (hy : (l.drop (k + 1)).take 1 = y) (hl : (T l).length < 2 ^ 24)
    (F : Fr h₀ L s.heap m) (N : News h₀ L s.heap news) (hQ : ∀ h' t' k, Fr h₀ L h' m → News h₀ L h' news → Q (.str (T y) t') { s with heap := h', toks := k })
    (hs : subscripted slice false (.str (T l) t) (.ref s.heap.objs.size) = operate [.ref s.heap.objs.size, .str (T l) t] (getItem (.str (T l) t) (.ref s.heap.objs.size)) := by with_unfolding_all rfl)
    (ht : ∀ r, letTemporaryGo value (.str (T l) t) r = pure () := by intro _; with_unfolding_all rfl) :
    wpAny (model prog w) A (subscriptTail value slice (.str (T l) t) (.ref s.heap.objs.size)) Q E { s with heap := s.heap.push { cls := .type "slice", data := .fields #[.int i ui, .int j uj, .none] } } :=
  r_slice1 (k := k + 1) (by omega) (by omega) hy hl F N hQ hs ht
/-- the signs of a made list, joined -/
theorem r_join {D : Addr} {vs : Array Value} {n : Nat} {acc : List Nat} {t : Tok} (N : News h₀ L s.heap news) (hm : (D, W.listOf vs n) ∈ news) (hs : Sgs vs acc) (hb : acc.length < 2 ^ 19)
    (h : ∀ t' k, Q (.str (T acc) t') { s with toks := k }) : wpAny (model prog w) A (call (.builtin "str.join") [.str (T []) t, .ref D]) Q E s := by
  refine join_listW (ys := acc.map fun d => T [d]) ⟨_, (N _ hm).1, rfl, n, rfl⟩ hs (by simp) ?_ fun t' k => ?_
  · have e : ((acc.map fun d => T [d]).map (·.length)).sum = acc.length := by
      clear hs hb h hm
      induction acc with
      | nil => rfl
      | cons c r ih => simp only [List.map_cons, List.sum_cons, T_len, List.length_cons, List.length_nil] at ih ⊢; omega
    rw [e, List.length_map]; omega
  · rw [join_nil_ones]; exact h t' k
theorem r_len {D : Addr} {vs : Array Value} {n : Nat} (N : News h₀ L s.heap news) (hm : (D, W.listOf vs n) ∈ news) (hb : vs.size < 2 ^ 40) (h : Q (.int vs.size (s.toks + 1)) { s with toks := s.toks + 1 + 1 }) :
    wpAny (model prog w) A (call (.builtin "len") [.ref D]) Q E s := PyProof.Rows.len_list ⟨_, (N _ hm).1, rfl, n, rfl⟩ (by omega) h
theorem r_upper {l up : List Nat} {t : Tok} (e : Txt.upper (T l) = T up) (hl : (T l).length ≤ 5592405) (h : Q (.str (T up) s.toks) { s with toks := s.toks + 1 }) : wpAny (model prog w) A (call (.builtin "str.upper") [.str (T l) t]) Q E s :=
  SCL.upper hl fun _ => by rw [e]; exact h
/-- in a made pair of texts -/
theorem r_inTup2 {D : Addr} {a b1 b2 : List Nat} {t t1 t2 : Tok} (N : News h₀ L s.heap news) (hm : (D, ({ cls := .type "tuple", data := .seq [.str (T b1) t1, .str (T b2) t2].toArray } : Obj)) ∈ news)
    (h : Q (.bool ((b1 == a) || (b2 == a))) s) : wpAny (model prog w) A (compareOp .In (.str (T a) t) (.ref D)) Q E s := by
  refine in_tuple_strs (ys := [T b1, T b2]) (News.isTup N hm) (.cons _ _ (.cons _ _ .nil)) ?_
  have e : ([T b1, T b2].any (· == T a)) = ((b1 == a) || (b2 == a)) := by
    simp only [List.any_cons, List.any_nil, Bool.or_false, T_beq]
  rw [e]; exact h
theorem ite_t {b : Bool} {P R : Prop} (h : b = true) (p : P) : (if b = true then P else R) := by rw [if_pos h]; exact p
theorem ite_f {b : Bool} {P R : Prop} (h : b = false) (r : R) : (if b = true then P else R) := by rw [if_neg (by rw [h]; decide)]; exact r
theorem ite_both {c : Prop} {d : Decidable c} {P R : Prop} (h1 : c → P) (h2 : ¬ c → R) : @ite _ c d P R := by
  by_cases h : c
  · rw [if_pos h]; exact h1 h
  · rw [if_neg h]; exact h2 h
theorem ite_p {c : Prop} {d : Decidable c} {P R : Prop} (h : c) (p : P) : @ite _ c d P R := by rw [if_pos h]; exact p
theorem ite_n {c : Prop} {d : Decidable c} {P R : Prop} (h : ¬ c) (r : R) : @ite _ c d P R := by rw [if_neg h]; exact r
end
theorem sgs_pick {vs : Array Value} {acc : List Nat} (h : Sgs vs acc) : Sgs (slicePick vs none (some (acc.length : Int)) none) acc := by
  have e : sliceBounds none (some (acc.length : Int)) none vs.size = (((0 : Nat) : Int), ((acc.length : Nat) : Int), 1) := by
    simp only [sliceBounds, Option.getD_none, show (1 : Int) > 0 by decide, if_true, if_neg (show ¬ ((acc.length : Int) < 0) by omega), h.size]
    congr 1
    congr 1
    omega
  rw [kmk_pick_nat _ e]
  have e2 : (vs.toList.drop 0).take (acc.length - 0) = vs.toList := by
    rw [List.drop_zero, Nat.sub_zero, ← h.size, ← Array.length_toList, List.take_length]
  rw [e2]
  exact h
theorem lit_0 : Str.ofString "" = T [] := by decide +kernel
theorem lit_q2 : Str.ofString "\"" = T [34] := by decide +kernel
theorem lit_q1 : Str.ofString "'" = T [39] := by decide +kernel
theorem lit_bs : Str.ofString "\\" = T [92] := by decide +kernel
theorem lit_stop : Str.ofString "{}\"," = T [123, 125, 34, 44] := by decide +kernel
theorem lit_lb : Str.ofString "{" = T [123] := by decide +kernel
theorem lit_rb : Str.ofString "}" = T [125] := by decide +kernel
theorem lit_comma : Str.ofString "," = T [44] := by decide +kernel
theorem lit_eq : Str.ofString "=" = T [61] := by decide +kernel
theorem lit_sep : Str.ofString ", " = T [44, 32] := by decide +kernel
theorem lit_NULL : Str.ofString "NULL" = T [78, 85, 76, 76] := by decide +kernel
theorem lit_TRUE : Str.ofString "TRUE" = T [84, 82, 85, 69] := by decide +kernel
theorem lit_FALSE : Str.ofString "FALSE" = T [70, 65, 76, 83, 69] := by decide +kernel
theorem lit_minus : Str.ofString "-" = T [45] := by decide +kernel
theorem lit_wordstop : Str.ofString ", =\"'" = T [44, 32, 61, 34, 39] := by decide +kernel
theorem lit_lsq : Str.ofString "[" = T [91] := by decide +kernel
theorem lit_rpar : Str.ofString ")" = T [41] := by decide +kernel
theorem lit_q2q2 : Str.ofString "\"\"" = T [34, 34] := by decide +kernel
theorem lit_q1q1 : Str.ofString "''" = T [39, 39] := by decide +kernel
theorem lit_zero : Str.ofString "\x00" = T [0] := by decide +kernel
end Mine
end PartR1_
section PartL1_
open PySem PySem.W PyProof.Rows PySem.Calls PySem.Spec
set_option maxRecDepth 100000
set_option maxHeartbeats 4000000
namespace Mine
/-- a for's turn: its end -/
def ForEnd {σ : Type} (ps : σ → List (Str × Value)) (nw : σ → List (Addr × Obj)) (P : Nat → σ → Prop) (h₀ : Heap) (L I : Addr) (oI : Obj) (i : Nat) (s : Shared) (s₃ : Shared) : Prop :=
  ∃ c' h' tk' m', s₃ = { s with heap := h', toks := tk' } ∧ Fr h₀ L h' m' ∧ News h₀ L h' ((I, oI) :: nw c') ∧ (∀ p ∈ ps c', m' p.1 = some p.2) ∧ P (i + 1) c'
theorem ForEnd.mk {σ : Type} {ps : σ → List (Str × Value)} {nw : σ → List (Addr × Obj)} {P : Nat → σ → Prop} {h₀ : Heap} {L I : Addr} {oI : Obj} {i : Nat} {s : Shared} (c' : σ) {h' : Heap} {tk' : Nat} {m' : Str → Option Value}
    (F : Fr h₀ L h' m') (N : News h₀ L h' ((I, oI) :: nw c')) (hm : ∀ p ∈ ps c', m' p.1 = some p.2) (hp : P (i + 1) c') : ForEnd ps nw P h₀ L I oI i s { s with heap := h', toks := tk' } :=
  ⟨c', h', tk', m', rfl, F, N, hm, hp⟩

theorem wpF_mono {α : Type} {M : Model} {A : Around} {E : Value → Shared → Prop} {s : Shared} {t : Sem α} {Q : α → Shared → Prop} (h : wpAny M A t Q (fun _ _ => False) s) : wpAny M A t Q E s := wpAny_mono h (fun _ _ x => x) fun _ _ x => x.elim

/-- a for over an iterator that turns itself alone -/
theorem for_walk {σ : Type} {prog : Program} {w : World} {A : Around} {s : Shared} {env : Env} {h₀ : Heap} {L I : Addr} {Q : Flow → Shared → Prop} {x : Str} {px : Pos} {body : List Stmt} {m : Str → Option Value} {fp : List Addr} {n : Nat} {V : Nat → Value → Prop} {St : Nat → Heap → Prop}
    (ps : σ → List (Str × Value)) (nw : σ → List (Addr × Obj)) (P : Nat → σ → Prop) (c₀ : σ)
    (hL : env.locals = L) (hx : env.kindOf x = some .local) (hk : (env.scope.kind == .class || (env.scope.kind == .module && env.locals != env.globals)) = false)
    (W : Walks prog w A I fp [I] n V St) (hst : St 0 s.heap) (hI : ∀ i h, St i h → ∃ o, h.get? I = some o) (hIL : I ≠ L) (hI0 : h₀.get? I = none) (hInw : ∀ c, ∀ p ∈ nw c, (∃ i, P i c) → p.1 ≠ I)
    (hfp : ∀ b ∈ fp, b = I ∨ (∃ o, h₀.get? b = some o) ∨ ∃ o, ∀ c i, P i c → (b, o) ∈ nw c) (hLfp : L ∉ fp)
    (F : Fr h₀ L s.heap m) (N : News h₀ L s.heap (nw c₀)) (h0 : ∀ p ∈ ps c₀, m p.1 = some p.2) (hp0 : P 0 c₀)
    (turn : ∀ i (c : σ) u h₁ tk₁ v oI, i < n → V i v → P i c → Fr h₀ L h₁ (kstB u ((x, v) :: ps c)) → News h₀ L h₁ ((I, oI) :: nw c) →
      wpAny (model prog w) A (execs body env) (fun f s₃ => match f with
            | .ret v => Q (.ret v) s₃
            | .brk => Q .next s₃
            | _ => ForEnd ps nw P h₀ L I oI i s s₃) (fun _ _ => False) { s with heap := h₁, toks := tk₁ })
    (done : ∀ (c : σ) u h₁ tk₁, P n c → Fr h₀ L h₁ (kstB u (ps c)) → News h₀ L h₁ (nw c) → Q .next { s with heap := h₁, toks := tk₁ }) :
    codeAny (model prog w) A (.forLoop (.Name x px) (.ref I) body [] env) (fun r s' => match r with | .ok f => Q f s' | .error e => cameBackBy (model prog w) A env (fun _ _ => False) e s') s := by
  subst hL
  have never : ∀ e s', (fun _ _ => False : Value → Shared → Prop) e s' → notedBy (model prog w) A env (fun e s' => cameBackBy (model prog w) A env (fun _ _ => False) e s') e s' := fun _ _ h => h.elim
  refine codeAny_forLoop (fun k s' => ∃ h' tk m' i c, s' = { s with heap := h', toks := tk } ∧ St i h' ∧ Fr h₀ env.locals h' m' ∧ News h₀ env.locals h' (nw c) ∧ (∀ p ∈ ps c, m' p.1 = some p.2) ∧ P i c ∧ i ≤ n ∧ k = n + 1 - i) ?_ (n + 1)
    ⟨s.heap, s.toks, m, 0, c₀, rfl, hst, F, N, h0, hp0, Nat.zero_le _, rfl⟩
  rintro k s' ⟨h', tk, m', i, c, rfl, hst', F', N', h1', hP', hi, rfl⟩
  have next : ∀ h₁ : Heap, (∀ b o, b ∉ [I] → h'.get? b = some o → h₁.get? b = some o) → Fr h₀ env.locals h₁ m' ∧ News h₀ env.locals h₁ (nw c) := fun h₁ hk₁ =>
    ⟨⟨F'.ns.at' fun o e => hk₁ _ o (fun q => hIL (List.mem_singleton.mp q).symm) e, fun b o e => hk₁ b o (fun q => by rw [List.mem_singleton.mp q, hI0] at e; cases e) (F'.keep b o e), F'.above⟩,
      fun p hp => ⟨hk₁ _ _ (fun q => hInw c p hp ⟨i, hP'⟩ (List.mem_singleton.mp q)) (N' p hp).1, (N' p hp).2⟩⟩
  by_cases hlt : i < n
  · refine W.item i _ _ _ hlt hst' fun v h₁ tk₁ hV hst₁ hk₁ => ?_
    obtain ⟨F₁, N₁⟩ := next h₁ hk₁
    refine wpAny_mono (wpAny_assign_Name (E := fun _ _ => False) (wpAny_storeName_local (Q := fun _ s₂ => wpAny (model prog w) A (execs body env) _ _ s₂) hx F₁.ns (fun h₂ hn₂ hs₂ => ?_) hk)) (fun _ _ h => h) never
    have F₂ := F₁.set hn₂ hs₂
    have hst₂ : St (i + 1) h₂ := W.frame _ _ _ hst₁ fun b hb o e => (hs₂.2 b fun q => hLfp (q ▸ hb)).trans e
    obtain ⟨oI, hoI⟩ := hI _ _ hst₂
    have N₂ : News h₀ env.locals h₂ ((I, oI) :: nw c) := fun p hp => by
      rcases List.mem_cons.mp hp with rfl | hp
      · exact ⟨hoI, hIL, hI0⟩
      · exact (N₁.set hs₂) p hp
    have e₂ : (fun y => if y = x then some v else m' y) = kstB m' ((x, v) :: ps c) := by
      funext z
      show (if z = x then some v else m' z) = if z = x then some v else kstB m' (ps c) z
      rw [kstB_eq h1' (fun _ => rfl)]
    rw [e₂] at F₂
    refine wpAny_mono (turn i c m' h₂ _ v oI hlt hV hP' F₂ N₂) (fun f s₃ h₃ => ?_) never
    have again : ForEnd ps nw P h₀ env.locals I oI i s s₃ → ∃ m, m < n + 1 - i ∧ ∃ h' tk m' i c, s₃ = { s with heap := h', toks := tk } ∧ St i h' ∧ Fr h₀ env.locals h' m' ∧ News h₀ env.locals h' (nw c) ∧ (∀ p ∈ ps c, m' p.1 = some p.2) ∧ P i c ∧ i ≤ n ∧ m = n + 1 - i := by
      rintro ⟨c', h₃', tk₃, m₃, rfl, F₃, N₃, hm₃, hP₃⟩
      refine ⟨n + 1 - (i + 1), by omega, h₃', tk₃, m₃, i + 1, c', rfl, W.frame _ _ _ hst₂ fun b hb o e => ?_, F₃, fun p hp => N₃ p (.tail _ hp), hm₃, hP₃, hlt, rfl⟩
      rcases hfp b hb with rfl | ⟨o₁, e₁⟩ | ⟨o₁, hin⟩
      · rw [hoI] at e; cases e; exact (N₃ _ (.head _)).1
      · rw [F₂.keep b o₁ e₁] at e; cases e; exact F₃.keep b _ e₁
      · have q := (N₂ _ (.tail _ (hin c i hP'))).1
        rw [q] at e; cases e
        exact (N₃ _ (.tail _ (hin c' _ hP₃))).1
    cases f with
    | ret v => exact h₃
    | brk => exact h₃
    | next => exact again h₃
    | cont => exact again h₃
  · have hin : i = n := by omega
    subst hin
    refine W.done _ _ _ hst' fun h₁ tk₁ hk₁ => ?_
    obtain ⟨F₁, N₁⟩ := next h₁ hk₁
    exact wpAny_execs_nil (done c m' h₁ tk₁ hP' (fr_of_pins F₁ h1') N₁)
theorem lt_of_news {h₀ h : Heap} {L : Addr} {news : List (Addr × Obj)} (N : News h₀ L h news) : ∀ p ∈ news, p.1 < h.objs.size := fun p hp => Heap.lt_size (N p hp).1
theorem fresh_above {h₀ h : Heap} {L : Addr} {m : Str → Option Value} (F : Fr h₀ L h m) {I : Addr} (hI : h.objs.size ≤ I) : I ≠ L ∧ h₀.get? I = none := by
  have hL := F.ns.lt
  refine ⟨fun q => Nat.lt_irrefl _ (Nat.lt_of_lt_of_le (q ▸ hL : I < h.objs.size) hI), ?_⟩
  cases e : h₀.get? I with
  | none => rfl
  | some o => exact absurd (Nat.lt_of_lt_of_le (Heap.lt_size (F.keep _ _ e)) hI) (Nat.lt_irrefl _)

/-- for x in a text -/
theorem for_str {σ : Type} {prog : Program} {w : World} {A : Around} {s : Shared} {env : Env} {h₀ : Heap} {L : Addr} {Q : Flow → Shared → Prop} {x : Str} {px : Pos} {body : List Stmt} {m : Str → Option Value} {l : List Nat} {t : Tok}
    (ps : σ → List (Str × Value)) (nw : σ → List (Addr × Obj)) (P : Nat → σ → Prop) (c₀ : σ) (hh : A.handled = none)
    (hL : env.locals = L) (hx : env.kindOf x = some .local) (hk : (env.scope.kind == .class || (env.scope.kind == .module && env.locals != env.globals)) = false)
    (F : Fr h₀ L s.heap m) (N : News h₀ L s.heap (nw c₀)) (h0 : ∀ p ∈ ps c₀, m p.1 = some p.2) (hp0 : P 0 c₀) (hadr : ∀ i c, P i c → ∀ p ∈ nw c, p.1 ∈ (nw c₀).map (·.1))
    (turn : ∀ i (c : σ) u h₁ tk₁ sg tg I oI, l[i]? = some sg → (∀ p ∈ nw c₀, p.1 < I) → P i c → Fr h₀ L h₁ (kstB u ((x, .str (T [sg]) tg) :: ps c)) → News h₀ L h₁ ((I, oI) :: nw c) →
      wpAny (model prog w) A (execs body env) (fun f s₃ => match f with
            | .ret v => Q (.ret v) s₃
            | .brk => Q .next s₃
            | _ => ForEnd ps nw P h₀ L I oI i { s with heap := h₁, toks := tk₁ } s₃) (fun _ _ => False) { s with heap := h₁, toks := tk₁ })
    (done : ∀ (c : σ) u h₁ tk₁, P l.length c → Fr h₀ L h₁ (kstB u (ps c)) → News h₀ L h₁ (nw c) → Q .next { s with heap := h₁, toks := tk₁ }) :
    wpAny (model prog w) A (pyIter (.str (T l) t)) (fun it s₂ => codeAny (model prog w) A (.forLoop (.Name x px) it body [] env) (fun r s' => match r with | .ok f => Q f s' | .error e => cameBackBy (model prog w) A env (fun _ _ => False) e s') s₂) (fun _ _ => False) s := by
  have hlt := lt_of_news N
  obtain ⟨hIL, hI0⟩ := fresh_above F (Nat.le_refl _)
  have hne : ∀ c, ∀ p ∈ nw c, (∃ i, P i c) → p.1 ≠ s.heap.objs.size := fun c p hp ⟨i, hP⟩ q => by
    obtain ⟨p', hp', e⟩ := List.mem_map.mp (hadr i c hP p hp)
    have h1 := hlt p' hp'
    rw [e, q] at h1
    exact Nat.lt_irrefl _ h1
  have hsz : (T l).cps.size = l.length := by simp [T]
  have main : ∀ (o : Obj) (ty : String), (∀ (i : Nat) (h : Heap), h.IsStrIter s.heap.objs.size ty (T l) t i → ∃ o, h.get? s.heap.objs.size = some o) →
      Walks prog w A s.heap.objs.size [s.heap.objs.size] [s.heap.objs.size] (T l).cps.size (SignAt (T l)) (fun i h => h.IsStrIter s.heap.objs.size ty (T l) t i) → (s.heap.push o).IsStrIter s.heap.objs.size ty (T l) t 0 →
      codeAny (model prog w) A (.forLoop (.Name x px) (.ref s.heap.objs.size) body [] env) (fun r s' => match r with | .ok f => Q f s' | .error e => cameBackBy (model prog w) A env (fun _ _ => False) e s') { s with heap := s.heap.push o } := by
    intro o ty hI W hst
    refine for_walk (s := { s with heap := s.heap.push o }) ps nw P c₀ hL hx hk W hst hI hIL hI0 hne (fun b hb => .inl (List.mem_singleton.mp hb)) (fun hb => hIL (List.mem_singleton.mp hb).symm) (F.push _) (N.keeps fun b o' e => Heap.get?_push_of_some _ e) h0 hp0 ?_ ?_
    · rintro i c u h₁ tk₁ v oI hi ⟨sg, tg, hsg, rfl⟩ hP F₁ N₁
      have hsg' : l[i]? = some sg := by simpa [T] using hsg
      refine wpAny_mono (turn i c u h₁ tk₁ sg tg _ oI hsg' hlt hP F₁ N₁) (fun f s₃ h₃ => ?_) fun _ _ x => x
      cases f <;> exact h₃
    · intro c u h₁ tk₁ hP F₁ N₁
      exact done c u h₁ tk₁ (hsz ▸ hP) F₁ N₁
  cases ha : (T l).cps.all (· < 128)
  · exact wpAny_pyIter_wide ha (main _ _ (fun i h st => ⟨_, st.choose_spec.1⟩) (Walks.strWide hh _ _ t) ⟨_, Heap.get?_push_size _ rfl, rfl, rfl⟩)
  · exact wpAny_pyIter_ascii ha (main _ _ (fun i h st => ⟨_, st.choose_spec.1⟩) (Walks.strAscii hh _ _ t) ⟨_, Heap.get?_push_size _ rfl, rfl, rfl⟩)
end Mine
end PartL1_
section PartL2_
open PySem PySem.W PyProof.Rows PySem.Calls PySem.Spec
set_option maxRecDepth 100000
set_option maxHeartbeats 4000000
namespace Mine

/-- the one table of code objects that turns: that of array_string_escape's code object 94 stands at 90 -/
def TabP (h : Heap) : Prop := ∃ ps, h.get? 90 = some (tabObj ps) ∧ TriplesOk ps.toList
def KeepP (h h' : Heap) : Prop := ∀ b o, b ≠ 90 → h.get? b = some o → h'.get? b = some o

theorem hide90_get {h : Heap} (t : TabP h) {b : Addr} {o : Obj} (e : h.get? b = some o) (hc : o.cls ≠ .none) : (h.hide 90).get? b = some o := by
  obtain ⟨ps, h90, _⟩ := t
  refine (Heap.hide_ne h fun q => hc ?_).trans e
  rw [q, h90] at e; cases e; rfl

/-- what a def of the text does that may make generator expressions of array_string_escape -/
def SpcG (w : World) (f : Addr) (vs : List Value) (d u : Nat) (Pre : Heap → Prop) (R : Value → Prop) : Prop :=
  ∀ (p : Program) (loose : List Str) (mean : ExcName → Option Value) (mg mb : Str → Option Value) (dp un : Nat) (gd : Option (List Code)) (cn : Str) (cs : Scope) (a : Addr) (ccd : Value) (cl : List (Str × Addr)) (outer : List Env) (A₀ : Around) (base h₀ : Heap) (L : Addr) (m : Str → Option Value) (s : Shared) (Q E : Value → Shared → Prop),
    Below A₀ base outer h₀ → Fr h₀ L s.heap m → (hd.heap_39 w.params).In h₀ → Top p loose mean mg mb h₀ → CodeHd h₀ 94 90 → h₀.get? 90 = none → TabP s.heap → AllBare s.gens → cs.kind = .function →
    dp + d < recursionLimit → un + u < cLine → Pre (s.heap.hide 90) →
    (∀ v s', KeepP s.heap s'.heap → TabP s'.heap → AllBare s'.gens → s'.os = s.os → R v → Q v s') →
    wpAny (model PySem.Challenge.rw_ew0021_01.row.prog w) (ktrTop dp un gd cn cs L a ccd cl outer) (call (.ref f) vs) Q E s

/-- the end of such a def -/
def BackG (h₀ : Heap) (L : Addr) (R : Value → Prop) (s : Shared) (fl : Flow) (s' : Shared) : Prop :=
  ∃ m' ps', Fr h₀ L s'.heap m' ∧ s'.heap.get? 90 = some (tabObj ps') ∧ TriplesOk ps'.toList ∧ AllBare s'.gens ∧ s'.os = s.os ∧ R (retv fl)
theorem BackG.mk {h₀ : Heap} {L : Addr} {R : Value → Prop} {s : Shared} {fl : Flow} {s' : Shared} {m' : Str → Option Value} {ps' : Array Value} {news : List (Addr × Obj)} (F : Fr h₀ L s'.heap m') (N : News h₀ L s'.heap news) (hm : (90, tabObj ps') ∈ news) (ht : TriplesOk ps'.toList)
    (hg : AllBare s'.gens) (ho : s'.os = s.os) (r : R (retv fl)) : BackG h₀ L R s fl s' := ⟨m', ps', F, (N _ hm).1, ht, hg, ho, r⟩

theorem hide_ground {h₀ : Heap} {L : Addr} {m : Str → Option Value} {s : Shared} {A A₀ : Around} {base : Heap} {outer : List Env} {env : Env} (B : Below A₀ base outer h₀) (F : Fr h₀ L s.heap m) (h90 : h₀.get? 90 = none) (t : TabP s.heap) (hA : A.frames = some (env :: outer)) (hf : env.frame = some L) (hke : env.scope.kind = .function) :
    Below A base (env :: outer) (s.heap.hide 90) ∧ h₀.StaysIn (s.heap.hide 90) := by
  obtain ⟨ps, e90, _⟩ := t
  have N : News h₀ L s.heap [(90, tabObj ps)] := fun p hp => by
    cases List.mem_singleton.mp hp
    refine ⟨e90, fun q => ?_, h90⟩
    obtain ⟨o, es, ep, e, hd, _⟩ := F.ns
    have q' : (90 : Addr) = L := q
    rw [← q', e90] at e; cases e; cases hd
  obtain ⟨_, BG, st, _⟩ := groundX (R := fun _ _ => True) B F N hA hf hke
  exact ⟨BG, st⟩

theorem SpcG.intro {w : World} {f : Addr} {vs : List Value} {d u : Nat} {Pre : Heap → Prop} {R : Value → Prop}
    {name qual : Str} {params : Arguments} {body : List Stmt} {scope : Scope} {dV kV doc pm cdv ct oc : Value} {an od : Option Addr} {osl : Array (Option Value)} (binds : List (Str × Value))
    (ho : (hd.heap_39 w.params).lookup f = some ⟨oc, od, .func (fnOf name qual params body scope dV kV doc pm an cdv ct), osl⟩) (hcd : codeIn (hd.heap_39 w.params) cdv qual = true)
    (hbind : bindArgs (fnOf name qual params body scope dV kV doc pm an cdv ct) ⟨vs, []⟩ = pure binds) (hloc : ∀ y ∈ binds, scope.names.lookup y.1 = some .local)
    (hco : scope.isCoroutine = false) (hgen : scope.isGenerator = false) (hk : scope.kind = .function) (hcell : ∀ x ∈ scope.names, x.2 ≠ .cell)
    (h : ∀ (p : Program) (loose : List Str) (mean : ExcName → Option Value) (mg mb : Str → Option Value) (dp un : Nat) (gd : Option (List Code)) (outer : List Env) (A₀ : Around) (base h₀ : Heap) (L : Addr) (s : Shared) (ps : Array Value),
      Below A₀ base outer h₀ → Fr h₀ L s.heap (fun y => binds.reverse.lookup y) → News h₀ L s.heap [(90, tabObj ps)] → TriplesOk ps.toList → (hd.heap_39 w.params).In h₀ → Top p loose mean mg mb h₀ → CodeHd h₀ 94 90 → h₀.get? 90 = none → AllBare s.gens →
      dp + d < recursionLimit + 1 → un + u < cLine + 3 → Pre h₀ →
      wpAny (model PySem.Challenge.rw_ew0021_01.row.prog w) (ktrTop dp un gd qual scope L f cdv [] outer) (execs body (envOf qual scope L f cdv)) (BackG h₀ L R s) (fun _ _ => False) s)
    (hd0 : 0 < d := by decide) : SpcG w f vs d u Pre R := by
  intro p loose mean mg mb dp un gd cn cs a ccd cl outer A₀ base h₀ L m s Q E B F X T C h90 t hG hke hd hu hp hret
  refine wpAny_call ?_
  refine codeAny_call_def (fd := fnOf name qual params body scope dV kV doc pm an cdv ct) (body := body) (binds := binds) ?_ (X.keeps F.keep _ _ ho) rfl (T.nolimit.keeps F.keep) (codeRec_of (X.keeps F.keep) hcd) rfl (BindsTo.of_eq hbind) hcell hloc (fun h₁ hns hk₁ => ?_) hco hgen hk
  · show dp < recursionLimit
    omega
  · obtain ⟨B', st⟩ := hide_ground (A := ktrTop dp un gd cn cs L a ccd cl outer) (env := envX cn cs L a ccd cl) B F h90 t rfl rfl hke
    obtain ⟨ps, e90, htr⟩ := id t
    have F₁ : Fr (s.heap.hide 90) s.heap.objs.size h₁ (fun y => binds.reverse.lookup y) := ⟨hns, fun b o e => hk₁ b o (Heap.of_hide e), Nat.le_of_eq (Heap.hide_size _ _)⟩
    have N₁ : News (s.heap.hide 90) s.heap.objs.size h₁ [(90, tabObj ps)] := fun q hq => by
      cases List.mem_singleton.mp hq
      exact ⟨hk₁ _ _ e90, Nat.ne_of_lt (Heap.lt_size e90), Heap.hide_self _ _⟩
    have h9 := h p loose mean mg mb (dp + 1) (un + 3) gd (envX cn cs L a ccd cl :: outer) _ base (s.heap.hide 90) s.heap.objs.size { s with heap := h₁, toks := s.toks + binds.length } ps B' F₁ N₁ htr (X.keeps st) (T.keeps st) (C.keeps st) (Heap.hide_self _ _) hG (by omega) (by omega) hp
    refine wpAny_mono (A := (ktrTop dp un gd cn cs L a ccd cl outer).deeper (envOf qual scope s.heap.objs.size f cdv)) h9 ?_ (fun _ _ x => x.elim)
    rintro fl s' ⟨m', ps', F', e90', ht', hg', ho', r⟩
    have kp : KeepP s.heap s'.heap := fun b o hb e => F'.keep b o ((Heap.hide_ne _ hb).trans e)
    cases fl <;> exact hret _ s' kp ⟨ps', e90', ht'⟩ hg' ho' r

theorem SpcG.introC {w : World} {f : Addr} {vs : List Value} {d u : Nat} {Pre : Heap → Prop} {R : Value → Prop}
    {name qual : Str} {params : Arguments} {body : List Stmt} {scope : Scope} {dV kV doc pm cdv ct oc : Value} {an od : Option Addr} {osl : Array (Option Value)} (binds : List (Str × Value))
    (ho : (hd.heap_39 w.params).lookup f = some ⟨oc, od, .func (fnOf name qual params body scope dV kV doc pm an cdv ct), osl⟩) (hcd : codeIn (hd.heap_39 w.params) cdv qual = true)
    (hbind : bindArgs (fnOf name qual params body scope dV kV doc pm an cdv ct) ⟨vs, []⟩ = pure binds)
    (hkind : (binds.all fun y => scope.names.lookup y.1 == some .local || scope.names.lookup y.1 == some .cell) = true) (hnd : ((cellsFrom 0 scope.names []).map (·.1)).Nodup)
    (hco : scope.isCoroutine = false) (hgen : scope.isGenerator = false) (hk : scope.kind = .function)
    (h : ∀ (p : Program) (loose : List Str) (mean : ExcName → Option Value) (mg mb : Str → Option Value) (dp un : Nat) (gd : Option (List Code)) (outer : List Env) (A₀ : Around) (base h₀ : Heap) (L : Addr) (s : Shared) (ps : Array Value) (cells : List (Addr × Obj)),
      Below A₀ base outer h₀ → Fr h₀ L s.heap (bindL (envOfC qual scope L f cdv).kindOf binds fun _ => none) → News h₀ L s.heap (cells ++ [(90, tabObj ps)]) → CellsAre (bindC (envOfC qual scope L f cdv).kindOf binds fun _ => none) (cellsFrom (L + 1) scope.names []) cells → 90 < L →
      TriplesOk ps.toList → (hd.heap_39 w.params).In h₀ → Top p loose mean mg mb h₀ → CodeHd h₀ 94 90 → h₀.get? 90 = none → AllBare s.gens →
      dp + d < recursionLimit + 1 → un + u < cLine + 3 → Pre h₀ →
      wpAny (model PySem.Challenge.rw_ew0021_01.row.prog w) (ktrTop dp un gd qual scope L f cdv (cellsFrom (L + 1) scope.names []) outer) (execs body (envOfC qual scope L f cdv)) (BackG h₀ L R s) (fun _ _ => False) s)
    (hd0 : 0 < d := by decide) : SpcG w f vs d u Pre R := by
  intro p loose mean mg mb dp un gd cn cs a ccd cl outer A₀ base h₀ L m s Q E B F X T C h90 t hG hke hd hu hp hret
  refine wpAny_call ?_
  obtain ⟨B', st⟩ := hide_ground (A := ktrTop dp un gd cn cs L a ccd cl outer) (env := envX cn cs L a ccd cl) B F h90 t rfl rfl hke
  obtain ⟨ps, e90, htr⟩ := id t
  refine codeAny_call_function (by show dp < recursionLimit; omega) (X.keeps F.keep _ _ ho) rfl hco hgen rfl (codeRec_of (X.keeps F.keep) hcd) ((BindsTo.of_eq hbind) _ _ _ _ ?_)
  refine wpAny_newFunctionEnv_cells hk (kindsX hkind _) fun env' he s' x => ?_
  subst he
  refine ⟨(T.nolimit.keeps F.keep).keeps x.toInCall.keep, codeAny_func ?_⟩
  obtain ⟨h₁, tk, rfl, _⟩ := x.done
  have hk₁ := x.toInCall.keep
  obtain ⟨cells, NC, Y⟩ := Cl.news (h₀ := s.heap) (Nat.le_refl _) fun n c hm => ⟨x.cell n c (lookup_of_mem_nodup (cellsFrom_names scope.names 0 (s.heap.objs.size + 1) [] [] rfl ▸ hnd) hm), x.above n c hm⟩
  have F₁ : Fr (s.heap.hide 90) s.heap.objs.size h₁ (bindL (envOfC qual scope s.heap.objs.size f cdv).kindOf binds fun _ => none) := ⟨x.toInCall.ns, fun b o e => hk₁ b o (Heap.of_hide e), Nat.le_of_eq (Heap.hide_size _ _)⟩
  have N₁ : News (s.heap.hide 90) s.heap.objs.size h₁ (cells ++ [(90, tabObj ps)]) := fun q hq => by
    rcases List.mem_append.mp hq with hq | hq
    · refine ⟨(NC q hq).1, (NC q hq).2.1, ?_⟩
      cases e : (s.heap.hide 90).get? q.1 with
      | none => rfl
      | some o => have := Heap.of_hide e; rw [(NC q hq).2.2] at this; cases this
    · cases List.mem_singleton.mp hq
      exact ⟨hk₁ _ _ e90, Nat.ne_of_lt (Heap.lt_size e90), Heap.hide_self _ _⟩
  have h9 := h p loose mean mg mb (dp + 1) (un + 3) gd (envX cn cs L a ccd cl :: outer) _ base (s.heap.hide 90) s.heap.objs.size { s with heap := h₁, toks := tk } ps cells B' F₁ N₁ Y (Heap.lt_size e90) htr (X.keeps st) (T.keeps st) (C.keeps st) (Heap.hide_self _ _) hG (by omega) (by omega) hp
  refine wpAny_mono (A := (ktrTop dp un gd cn cs L a ccd cl outer).deeper (envOfC qual scope s.heap.objs.size f cdv)) h9 ?_ (fun _ _ x => x.elim)
  rintro fl s' ⟨m', ps', F', e90', ht', hg', ho', r⟩
  have kp : KeepP s.heap s'.heap := fun b o hb e => F'.keep b o ((Heap.hide_ne _ hb).trans e)
  cases fl <;> exact hret _ s' kp ⟨ps', e90', ht'⟩ hg' ho' r

theorem SpcG.use {w : World} {f : Addr} {vs : List Value} {d u : Nat} {Pre : Heap → Prop} {R : Value → Prop} (S : SpcG w f vs d u Pre R)
    {p : Program} {loose : List Str} {mean : ExcName → Option Value} {mg mb : Str → Option Value} {dp un : Nat} {gd : Option (List Code)} {cn : Str} {cs : Scope} {a : Addr} {ccd : Value} {cl : List (Str × Addr)} {outer : List Env} {A₀ : Around} {base h₀ : Heap} {L : Addr} {m : Str → Option Value} {news : List (Addr × Obj)} {s : Shared} {Q E : Value → Shared → Prop} {ps : Array Value}
    (B : Below A₀ base outer h₀) (F : Fr h₀ L s.heap m) (X : (hd.heap_39 w.params).In h₀) (N : News h₀ L s.heap ((90, tabObj ps) :: news)) (ht : TriplesOk ps.toList) (hne : ∀ q ∈ news, q.1 ≠ 90) (T : Top p loose mean mg mb h₀) (C : CodeHd h₀ 94 90) (h90 : h₀.get? 90 = none) (hG : AllBare s.gens) (hke : cs.kind = .function)
    (hd : dp + d < recursionLimit) (hu : un + u < cLine) (hp : Pre (s.heap.hide 90))
    (hret : ∀ v s' ps', Fr h₀ L s'.heap m → News h₀ L s'.heap ((90, tabObj ps') :: news) → TriplesOk ps'.toList → AllBare s'.gens → s'.os = s.os → R v → Q v s') :
    wpAny (model PySem.Challenge.rw_ew0021_01.row.prog w) (ktrTop dp un gd cn cs L a ccd cl outer) (call (.ref f) vs) Q E s :=
  S p loose mean mg mb dp un gd cn cs a ccd cl outer A₀ base h₀ L m s Q E B F X T C h90 ⟨ps, (N _ (.head _)).1, ht⟩ hG hke hd hu hp fun v s' k t' hg' ho' r => by
    obtain ⟨ps', e90', ht'⟩ := t'
    have hL : L ≠ 90 := fun q => (N _ (.head _)).2.1 q.symm
    refine hret v s' ps' ⟨F.ns.at' fun o e => k L o hL e, fun b o e => k b o (fun q => by rw [q, h90] at e; cases e) (F.keep b o e), F.above⟩ (fun q hq => ?_) ht' hg' ho' r
    rcases List.mem_cons.mp hq with rfl | hq
    · exact ⟨e90', (N _ (.head _)).2⟩
    · have n := N q (.tail _ hq)
      exact ⟨k _ _ (hne q hq) n.1, n.2⟩
end Mine
end PartL2_
section PartL3_
open PySem PySem.W PyProof.Rows PySem.Calls PySem.Spec
set_option maxRecDepth 100000
set_option maxHeartbeats 4000000
namespace Mine
/-- a generator object that stands ready: it yields the n elements of Fe, and turns no object below lo -/
def GenX (prog : Program) (w : World) (A : Around) (lo a : Nat) (n : Nat) (Fe : Nat → Value → Prop) (s : Shared) : Prop :=
  ∃ fp wr g St, WalksS prog w A.in4 a fp wr (GenOnlyQ g) n Fe St ∧ St 0 s ∧ ∀ b ∈ wr, lo ≤ b

theorem passing_whole (n : Nat) : passing (fun _ => true) n 0 = List.range n := by simp [passing]

/-- what a source of elements has to show -/
def GenSrc (prog : Program) (w : World) (A : Around) (h₀ : Heap) (L : Addr) (m : Str → Option Value) (scope : Scope) (cl : List (Str × Addr)) (env : Env) (x : Str) (elt : Expr) (Q : Value → Shared → Prop) (it : Value) (s₂ : Shared) : Prop :=
  ∃ (ps : Array Value) (news : List (Addr × Obj)) (lo I : Nat) (fp wr : List Addr) (n₀ : Nat) (Pi : Nat → Value → Prop) (St₀ : Nat → Heap → Prop) (Fe : Nat → Value → Prop),
        Fr h₀ L s₂.heap m ∧ News h₀ L s₂.heap ((90, tabObj ps) :: news) ∧ (∀ q ∈ news, q.1 ≠ 90) ∧ TriplesOk ps.toList ∧ AllBare s₂.gens ∧
        it = .ref I ∧ (∀ A' : Around, A'.handled = none → Walks prog w A' I fp wr n₀ Pi St₀) ∧ St₀ 0 s₂.heap ∧ (∀ b ∈ fp, b < s₂.heap.objs.size) ∧ 90 ∉ fp ∧ (∀ b ∈ wr, lo ≤ b) ∧ lo ≤ s₂.heap.objs.size ∧ L < lo ∧ (∀ q ∈ news, q.1 < lo) ∧
        (∀ (C₁ : Addr) (code : Value) (A' : Around) (E' : Value → Shared → Prop) (i : Nat) (v : Value) (t : Shared) (m₂ : Str → Option Value), A'.handled = none → Pi i v → t.heap.Ns C₁ m₂ → m₂ x = some v → (∀ q ∈ news, t.heap.get? q.1 = some q.2) →
          wpAny (model prog w) A' (eval elt (genEnv scope cl C₁ code builtinsNs env)) (fun y s₃ => Fe i y ∧ Keeps t s₃) E' t) ∧
        (∀ (a : Addr) (s₅ : Shared) (ps' : Array Value), Fr h₀ L s₅.heap m → News h₀ L s₅.heap ((90, tabObj ps') :: news) → TriplesOk ps'.toList → AllBare s₅.gens → s₅.os = s₂.os → GenX prog w A lo a n₀ Fe s₅ → Q (.ref a) s₅)

theorem gexp_G {prog : Program} {w : World} {A : Around} {E : Value → Shared → Prop} {s : Shared} {h₀ : Heap} {L : Addr} {m mg mb : Str → Option Value} {p : Program} {loose : List Str} {mean : ExcName → Option Value}
    {env : Env} {elt iter : Expr} {x : Str} {px : Pos} {scope : Scope} {cl : List (Str × Addr)} {pos : Pos} {Q : Value → Shared → Prop}
    (_F : Fr h₀ L s.heap m) (T : Top p loose mean mg mb h₀) (C : CodeHd h₀ 94 90) (h90 : h₀.get? 90 = none) (hcode : env.code = .ref 94) (hglob : env.globals = mainGlobals)
    (hh : A.handled = none) (hroom : A.depth < recursionLimit) (hco : scope.isCoroutine = false) (hclos : closureFor scope env = pure cl) (hcell : ∀ y ∈ scope.names, y.2 ≠ .cell) (h0 : scope.names.lookup (".0" : Str) = some NameKind.local)
    (hx : scope.names.lookup x = some .local) (hkind : scope.kind = .function) (hs : ∀ x, genFold iter env x = pure x)
    (h : wpAny (model prog w) A (eval iter env) (fun xv s₁ => wpAny (model prog w) A (pyIter xv) (GenSrc prog w A h₀ L m scope cl env x elt Q) E s₁) E s) :
    wpAny (model prog w) A (eval (.GeneratorExp elt [⟨.Name x px, iter, [], 0⟩] scope pos) env) Q E s := by
  refine wpAny_GeneratorExp_walksQD hh hco hclos hcell h0 hx hkind hroom (wpAny_mono h (fun xv s₁ h₁' => wpAny_mono h₁' (fun it s₂ h₂ => ?_) fun _ _ e => e) fun _ _ e => e) hs
  obtain ⟨ps, news, lo, I, fp, wr, n₀, Pi, St₀, Fe, F₂, N₂, hne, ht, G₂, rfl, W₀, hst, hfp, hPf, hwr, hlo, hLlo, hnlo, hel, hQ⟩ := h₂
  have hlim₂ : s₂.heap.NoLimit := T.nolimit.keeps F₂.keep
  have hm := N₂ _ (.head _)
  obtain ⟨bm, ob, b1, b2, b3, b4, b5, b6⟩ := T.bmain
  have h0size : h₀.objs.size ≤ L := F₂.above
  have hcst : cStatics < h₀.objs.size := let ⟨_, hn, _⟩ := T.nolimit; hn.lt
  have hcw : cStatics ∉ wr := fun q => Nat.lt_irrefl _ (Nat.lt_of_lt_of_le hcst (Nat.le_trans h0size (Nat.le_trans (Nat.le_of_lt hLlo) (hwr _ q))))
  have hbG : bm ≠ builtinsNs := fun q => by
    obtain ⟨o, es, ep, e, hd, _⟩ := T.b
    rw [q, e] at b3; cases b3; rw [hd] at b6; cases b6
  have hbld : ∀ {s₃ : Shared} {Q' : Addr → Shared → Prop}, (∀ b o, h₀.get? b = some o → s₃.heap.get? b = some o) → Q' builtinsNs s₃ → wpAny (model prog w) A (builtinsFor env.globals env.builtins) Q' E s₃ := fun {s₃ Q'} hk q => by
    rw [hglob]
    exact wpAny_builtinsFor (T.g.keeps hk) b1 hbG (hk _ _ b3) b4 b5 b6 q
  have main : ∀ (code : Value) (h₃ : Heap) (tk₃ : Nat) (ps' : Array Value), (∀ b o, b ≠ 90 → s₂.heap.get? b = some o → h₃.get? b = some o) → h₃.get? 90 = some (tabObj ps') → TriplesOk ps'.toList → s₂.heap.objs.size ≤ h₃.objs.size →
      wpAny (model prog w) A (builtinsFor env.globals env.builtins) (fun bi s₄ =>
        ∃ I' fp wr n₀ P St₀ pz F, Value.ref I = Value.ref I' ∧ (∀ A' : Around, A'.handled = none → Walks prog w A' I' fp wr n₀ P St₀) ∧ St₀ 0 s₄.heap ∧ (∀ b ∈ fp, b < s₄.heap.objs.size) ∧ s₄.heap.NoLimit ∧ cStatics ∉ wr ∧
          (∀ href : Heap, (∀ b o, s₄.heap.get? b = some o → href.get? b = some o) →
            QuietGenD prog w (genEnv scope cl s₄.heap.objs.size code bi env) x [] elt (List.range s₄.heap.objs.size) wr P pz F href (A.depth + 1) (A.units + 8)) ∧
          (∀ a h₅ tk gs, gs.bare = true → s₄.heap.objs.size < a → h₅.objs.size = a + 1 → (∀ b o, s₄.heap.get? b = some o → h₅.get? b = some o) →
            WalksS prog w A.in4 a (a :: s₄.heap.objs.size :: List.range s₄.heap.objs.size) (s₄.heap.objs.size :: wr) (GenOnlyQ s₄.gens.size) (passing pz n₀ 0).length
              (fun j y => ∃ i, (passing pz n₀ 0)[j]? = some i ∧ F i y) (GenAt prog w A.in4 a s₄.gens.size s₄.heap.objs.size (List.range s₄.heap.objs.size) wr pz n₀ F) →
            GenAt prog w A.in4 a s₄.gens.size s₄.heap.objs.size (List.range s₄.heap.objs.size) wr pz n₀ F 0 { s₄ with gens := s₄.gens.push gs, toks := tk, heap := h₅ } →
            Q (.ref a) { s₄ with gens := s₄.gens.push gs, toks := tk, heap := h₅ })) E { s₂ with heap := h₃, toks := tk₃ } := by
    intro code h₃ tk₃ ps' hk₃ hP₃ ht' hsz
    have old : ∀ b o, h₀.get? b = some o → h₃.get? b = some o := fun b o e => hk₃ b o (fun q => by rw [q, h90] at e; cases e) (F₂.keep b o e)
    have hnw : ∀ q ∈ news, h₃.get? q.1 = some q.2 := fun q hq => hk₃ _ _ (hne q hq) (N₂ q (.tail _ hq)).1
    refine hbld old ⟨I, fp, wr, n₀, Pi, St₀, fun _ => true, Fe, rfl, W₀, (W₀ A hh).frame _ _ _ hst (fun b hb o e => hk₃ b o (fun q => hPf (q ▸ hb)) e), (fun b hb => Nat.lt_of_lt_of_le (hfp b hb) hsz), T.nolimit.keeps old, hcw, fun href hhref => ⟨?_, ?_⟩, ?_⟩
    · intro A' E' i v t m₂ _ _ _ _ _ _ _
      exact wpAny_pure ⟨rfl, _, _, rfl, fun _ _ e => e⟩
    · intro A' E' i v t m₂ hA _ _ hP _ hn hm₂ hkp
      refine hel _ code A' E' i v t m₂ hA hP hn hm₂ fun q hq => hkp q.1 (List.mem_range.mpr (Heap.lt_size (hnw q hq))) (fun hw => Nat.lt_irrefl _ (Nat.lt_of_lt_of_le (hnlo q hq) (hwr _ hw))) _ (hhref _ _ (hnw q hq))
    · intro a h₅ tk gs hgb _ _ hk₅ W hat
      have k₅ : ∀ b o, h₃.get? b = some o → h₅.get? b = some o := hk₅
      have hL90 : L ≠ 90 := fun q => hm.2.1 q.symm
      have e1 : (passing (fun _ => true) n₀ 0).length = n₀ := by rw [passing_whole, List.length_range]
      have e2 : ∀ j y, (∃ i, (passing (fun _ => true) n₀ 0)[j]? = some i ∧ Fe i y) → Fe j y := by
        rintro j y ⟨i, hi, hf⟩
        rw [passing_whole] at hi
        obtain ⟨hj, e⟩ := List.getElem?_eq_some_iff.mp hi
        rw [List.getElem_range] at e
        rw [e]; exact hf
      rw [e1] at W
      refine hQ a _ ps' ⟨F₂.ns.at' fun o e => k₅ _ _ (hk₃ L o hL90 e), fun b o e => k₅ _ _ (old b o e), F₂.above⟩ (fun q hq => ?_) ht' (G₂.push hgb) rfl ⟨_, _, _, _, W.imp e2, hat, ?_⟩
      · rcases List.mem_cons.mp hq with rfl | hq
        · exact ⟨k₅ _ _ hP₃, hm.2⟩
        · exact ⟨k₅ _ _ (hnw q hq), (N₂ q (.tail _ hq)).2⟩
      · intro b hb
        rcases List.mem_cons.mp hb with rfl | hb
        · exact Nat.le_trans hlo hsz
        · exact hwr b hb
  cases hf : codeAmong pos ps.toList with
  | some c' => exact ⟨hlim₂, wpAny_genexprCode_hit hcode ((C.keeps F₂.keep).code hm.1 ht) hf (main c' s₂.heap s₂.toks ps (fun _ _ _ e => e) hm.1 ht (Nat.le_refl _))⟩
  | none =>
    refine ⟨hlim₂, wpAny_genexprCodeX hcode ((C.keeps F₂.keep).code hm.1 ht) ((C.keeps F₂.keep).tab hm.1) hf fun c' h₃ tk₃ hx₃ hge hlt hcode₃ _ htab₃ _ => ?_⟩
    exact main _ h₃ tk₃ _ (fun b o hb e => hx₃ b o hb e) htab₃.2 (by simpa using TriplesOk_snoc _ _ _ _ ht) (Nat.le_trans hge (Nat.le_of_lt hlt))

theorem any_G {prog : Program} {w : World} {A : Around} {E : Value → Shared → Prop} {s : Shared} {h₀ : Heap} {L : Addr} {m : Str → Option Value} {news : List (Addr × Obj)} {lo a n : Nat} {Fe : Nat → Value → Prop} {Q : Value → Shared → Prop}
    (F : Fr h₀ L s.heap m) (N : News h₀ L s.heap news) (G : AllBare s.gens) (X : GenX prog w A lo a n Fe s) (hL : L < lo) (hlo : ∀ q ∈ news, q.1 < lo) (tr : Nat → Bool) (htr : TruthOf prog w A.in1 Fe tr)
    (hQ : ∀ s', Fr h₀ L s'.heap m → News h₀ L s'.heap news → AllBare s'.gens → s'.os = s.os → Q (.bool ((List.range n).any tr)) s') : wpAny (model prog w) A (call (.builtin "any") [.ref a]) Q E s := by
  obtain ⟨fp, wr, g, St, W, hst, hwr⟩ := X
  have W := W.in4_1
  refine call_any_walkS (W.self 0 _ _ _ hst ⟨a, _, _, _, _, _, _, tr, rfl, W, hst, htr, fun s' hm => ?_⟩)
  have k : ∀ b o, b < lo → s.heap.get? b = some o → s'.heap.get? b = some o := fun b o hb e => hm.heap b o (fun q => Nat.lt_irrefl _ (Nat.lt_of_lt_of_le hb (hwr b q))) e
  refine hQ s' ⟨F.ns.at' fun o e => k L o hL e, fun b o e => k b o (Nat.lt_trans (Nat.lt_of_lt_of_le (Heap.lt_size e) F.above) hL) (F.keep b o e), F.above⟩ (fun q hq => ⟨k _ _ (hlo q hq) (N q hq).1, (N q hq).2⟩) (G.movedS hm) hm.os
theorem src_str {prog : Program} {w : World} {A : Around} {E : Value → Shared → Prop} {s : Shared} {h₀ : Heap} {L : Addr} {m : Str → Option Value} {env : Env} {elt : Expr} {x : Str} {scope : Scope} {cl : List (Str × Addr)} {Q : Value → Shared → Prop} {l : List Nat} {t : Tok} {ps : Array Value} {news : List (Addr × Obj)}
    (F : Fr h₀ L s.heap m) (N : News h₀ L s.heap ((90, tabObj ps) :: news)) (hne : ∀ q ∈ news, q.1 ≠ 90) (ht : TriplesOk ps.toList) (G : AllBare s.gens) (Fe : Nat → Value → Prop)
    (hel : ∀ (C₁ : Addr) (code : Value) (A' : Around) (E' : Value → Shared → Prop) (i sg : Nat) (tg : Tok) (t : Shared) (m₂ : Str → Option Value), A'.handled = none → l[i]? = some sg → t.heap.Ns C₁ m₂ → m₂ x = some (.str (T [sg]) tg) → (∀ q ∈ news, t.heap.get? q.1 = some q.2) →
          wpAny (model prog w) A' (eval elt (genEnv scope cl C₁ code builtinsNs env)) (fun y s₃ => Fe i y ∧ Keeps t s₃) E' t)
    (hQ : ∀ (a : Addr) (s₅ : Shared) (ps' : Array Value), Fr h₀ L s₅.heap m → News h₀ L s₅.heap ((90, tabObj ps') :: news) → TriplesOk ps'.toList → AllBare s₅.gens → s₅.os = s.os → L < s.heap.objs.size → (∀ q ∈ (90, tabObj ps') :: news, q.1 < s.heap.objs.size) → GenX prog w A s.heap.objs.size a l.length Fe s₅ → Q (.ref a) s₅) :
    wpAny (model prog w) A (pyIter (.str (T l) t)) (GenSrc prog w A h₀ L m scope cl env x elt Q) E s := by
  have hlt := lt_of_news N
  have hsz : (T l).cps.size = l.length := by simp [T]
  have main : ∀ (o : Obj) (ty : String),
      (∀ A' : Around, A'.handled = none → Walks prog w A' s.heap.objs.size [s.heap.objs.size] [s.heap.objs.size] (T l).cps.size (SignAt (T l)) (fun i h => h.IsStrIter s.heap.objs.size ty (T l) t i)) → (s.heap.push o).IsStrIter s.heap.objs.size ty (T l) t 0 →
      GenSrc prog w A h₀ L m scope cl env x elt Q (.ref s.heap.objs.size) { s with heap := s.heap.push o } := by
    intro o ty W hst
    refine ⟨ps, news, s.heap.objs.size, s.heap.objs.size, _, _, l.length, _, _, Fe, F.push _, N.keeps fun b o' e => Heap.get?_push_of_some _ e, hne, ht, G, rfl, fun A' hA => hsz ▸ W A' hA, hst, ?_, ?_, ?_, ?_, F.ns.lt, fun q hq => hlt q (.tail _ hq), ?_, ?_⟩
    · intro b hb
      cases List.mem_singleton.mp hb
      show s.heap.objs.size < (s.heap.push o).objs.size
      rw [Heap.size_push]; exact Nat.lt_succ_self _
    · intro hb
      exact Nat.lt_irrefl s.heap.objs.size (List.mem_singleton.mp hb ▸ hlt _ (.head _))
    · intro b hb
      exact Nat.le_of_eq (List.mem_singleton.mp hb).symm
    · show s.heap.objs.size ≤ (s.heap.push o).objs.size
      rw [Heap.size_push]; exact Nat.le_succ _
    · rintro C₁ code A' E' i v t' m₂ hA ⟨sg, tg, hsg, rfl⟩ hn hm hk
      have hsg' : l[i]? = some sg := by simpa [T] using hsg
      exact hel C₁ code A' E' i sg tg t' m₂ hA hsg' hn hm hk
    · intro a s₅ ps' F₅ N₅ ht₅ G₅ o₅ X₅
      exact hQ a s₅ ps' F₅ N₅ ht₅ G₅ o₅ F.ns.lt (fun q hq => by
        rcases List.mem_cons.mp hq with rfl | hq
        · exact hlt (90, tabObj ps) (.head _)
        · exact hlt q (.tail _ hq)) X₅
  cases ha : (T l).cps.all (· < 128)
  · exact wpAny_pyIter_wide ha (main _ _ (fun A' hA => Walks.strWide hA _ _ t) ⟨_, Heap.get?_push_size _ rfl, rfl, rfl⟩)
  · exact wpAny_pyIter_ascii ha (main _ _ (fun A' hA => Walks.strAscii hA _ _ t) ⟨_, Heap.get?_push_size _ rfl, rfl, rfl⟩)

theorem src_tup {prog : Program} {w : World} {A : Around} {E : Value → Shared → Prop} {s : Shared} {h₀ : Heap} {L : Addr} {m : Str → Option Value} {env : Env} {elt : Expr} {x : Str} {scope : Scope} {cl : List (Str × Addr)} {Q : Value → Shared → Prop} {d : Addr} {items : List Value} {ps : Array Value} {news : List (Addr × Obj)}
    (F : Fr h₀ L s.heap m) (N : News h₀ L s.heap ((90, tabObj ps) :: news)) (hd : s.heap.IsTuple d items.toArray) (hne : ∀ q ∈ news, q.1 ≠ 90) (ht : TriplesOk ps.toList) (G : AllBare s.gens) (Fe : Nat → Value → Prop)
    (hel : ∀ (C₁ : Addr) (code : Value) (A' : Around) (E' : Value → Shared → Prop) (i : Nat) (v : Value) (t : Shared) (m₂ : Str → Option Value), A'.handled = none → items[i]? = some v → t.heap.Ns C₁ m₂ → m₂ x = some v → (∀ q ∈ news, t.heap.get? q.1 = some q.2) →
          wpAny (model prog w) A' (eval elt (genEnv scope cl C₁ code builtinsNs env)) (fun y s₃ => Fe i y ∧ Keeps t s₃) E' t)
    (hQ : ∀ (a : Addr) (s₅ : Shared) (ps' : Array Value), Fr h₀ L s₅.heap m → News h₀ L s₅.heap ((90, tabObj ps') :: news) → TriplesOk ps'.toList → AllBare s₅.gens → s₅.os = s.os → L < s.heap.objs.size → (∀ q ∈ (90, tabObj ps') :: news, q.1 < s.heap.objs.size) → GenX prog w A s.heap.objs.size a items.length Fe s₅ → Q (.ref a) s₅) :
    wpAny (model prog w) A (pyIter (.ref d)) (GenSrc prog w A h₀ L m scope cl env x elt Q) E s := by
  have hlt := lt_of_news N
  have hdlt : d < s.heap.objs.size := let ⟨_, e, _⟩ := hd; Heap.lt_size e
  have hd90 : d ≠ 90 := fun q => by
    obtain ⟨o, e, c, _⟩ := hd
    rw [q, (N _ (.head _)).1] at e; cases e; cases c
  refine wpAny_pyIter_tuple hd ?_
  refine ⟨ps, news, s.heap.objs.size, s.heap.objs.size, [s.heap.objs.size, d], [s.heap.objs.size], items.length, _, _, Fe, F.push _, N.keeps fun b o' e => Heap.get?_push_of_some _ e, hne, ht, G, rfl, fun A' hA => Walks.tuple hA _ d (Nat.ne_of_lt hdlt) items.toArray, ⟨⟨_, Heap.get?_push_size _ rfl, rfl, rfl⟩, hd.push _⟩, ?_, ?_, ?_, ?_, F.ns.lt, fun q hq => hlt q (.tail _ hq), ?_, ?_⟩
  · intro b hb
    show b < (s.heap.push _).objs.size
    rw [Heap.size_push]
    rcases List.mem_cons.mp hb with rfl | hb
    · exact Nat.lt_succ_self _
    · exact List.mem_singleton.mp hb ▸ Nat.lt_succ_of_lt hdlt
  · intro hb
    rcases List.mem_cons.mp hb with e | hb
    · exact Nat.lt_irrefl s.heap.objs.size (e ▸ hlt _ (.head _))
    · exact hd90 (List.mem_singleton.mp hb).symm
  · intro b hb
    exact Nat.le_of_eq (List.mem_singleton.mp hb).symm
  · show s.heap.objs.size ≤ (s.heap.push _).objs.size
    rw [Heap.size_push]; exact Nat.le_succ _
  · intro C₁ code A' E' i v t' m₂ hA hi hn hm hk
    exact hel C₁ code A' E' i v t' m₂ hA (by simpa using hi) hn hm hk
  · intro a s₅ ps' F₅ N₅ ht₅ G₅ o₅ X₅
    exact hQ a s₅ ps' F₅ N₅ ht₅ G₅ o₅ F.ns.lt (fun q hq => by
      rcases List.mem_cons.mp hq with rfl | hq
      · exact hlt (90, tabObj ps) (.head _)
      · exact hlt q (.tail _ hq)) X₅

theorem truthB {prog : Program} {w : World} {A : Around} (tr : Nat → Bool) : TruthOf prog w A (fun i v => v = .bool (tr i)) tr := by
  rintro i v s Q E rfl h
  exact wpAny_truthy_bool h
theorem range_any {α : Type} (l : List α) (d : α) (f : α → Bool) : ((List.range l.length).any fun i => f (l.getD i d)) = l.any f := by
  rw [Bool.eq_iff_iff, List.any_eq_true, List.any_eq_true]
  constructor
  · rintro ⟨i, hi, h⟩
    have hi := List.mem_range.mp hi
    rw [List.getD_eq_getElem?_getD, List.getElem?_eq_getElem hi, Option.getD_some] at h
    exact ⟨_, List.getElem_mem hi, h⟩
  · rintro ⟨a, ha, h⟩
    obtain ⟨i, hi, rfl⟩ := List.getElem_of_mem ha
    exact ⟨i, List.mem_range.mpr hi, by rw [List.getD_eq_getElem?_getD, List.getElem?_eq_getElem hi, Option.getD_some]; exact h⟩
theorem jn0 {b : List Nat} : Str.empty ++ T b = T b := by
  show T [] ++ T b = T b
  rw [T_append]; rfl
theorem jn1 {x : Str} {a b : List Nat} (h : x = T a) : x ++ T b = T (a ++ b) := by rw [h, T_append]
theorem r_jnil {M : Model} {A : Around} {E : Value → Shared → Prop} {s : Shared} {out : Str} {acc : List Nat} {Q : Value → Shared → Prop} (e : out = T acc) (hl : acc.length < 2^23) (h : Q (.str (T acc) s.toks) { s with toks := s.toks + 1 }) : wpAny M A (joinParts out []) Q E s := by
  subst e
  exact joinParts_nil h (by rw [T_len, sizeLine_eq]; omega)
theorem r_jand {out : Str} {acc : List Nat} {P : Prop} (e : out = T acc) (hl : acc.length < 2^23) (h : P) : out.length ≤ sizeLine ∧ P := by
  subst e
  exact ⟨by rw [T_len, sizeLine_eq]; omega, h⟩
theorem news_mem {h₀ h : Heap} {L : Addr} {a b : List (Addr × Obj)} (N : News h₀ L h a) (i : ∀ q ∈ b, q ∈ a) : News h₀ L h b := fun q hq => N q (i q hq)
theorem ite_T {d : Decidable True} {P R : Prop} (p : P) : @ite _ True d P R := by rw [if_pos trivial]; exact p
theorem ite_F {d : Decidable False} {P R : Prop} (p : R) : @ite _ False d P R := by rw [if_neg id]; exact p
end Mine
end PartL3_
section PartL4_
open PySem PySem.W PyProof.Rows PySem.Calls PySem.Spec
set_option maxRecDepth 100000
set_option maxHeartbeats 4000000
namespace Mine
open LCg (lst NsObj lst_snoc ns_obj fr_but news_but)

/-- the end of an element of a comprehension -/
def CEnd {σ : Type} (nw : σ → List (Addr × Obj)) (P : Nat → σ → Prop) (out : σ → List Value) (Gd : Shared → Prop) (h₀ : Heap) (L : Addr) (m : Str → Option Value) (I : Addr) (oI : Obj) (C : Addr) (oC : Obj) (D : Addr) (i : Nat) (c : σ) (y : Value) (s₃ : Shared) : Prop :=
  ∃ c', Gd s₃ ∧ Fr h₀ L s₃.heap m ∧ News h₀ L s₃.heap ((I, oI) :: (C, oC) :: (D, lst (out c)) :: nw c') ∧ P (i + 1) c' ∧ out c' = out c ++ [y]
theorem CEnd.mk {σ : Type} {nw : σ → List (Addr × Obj)} {P : Nat → σ → Prop} {out : σ → List Value} {Gd : Shared → Prop} {h₀ : Heap} {L : Addr} {m : Str → Option Value} {I : Addr} {oI : Obj} {C : Addr} {oC : Obj} {D : Addr} {i : Nat} {c : σ} {y : Value} {s₃ : Shared} (c' : σ)
    (g : Gd s₃) (F : Fr h₀ L s₃.heap m) {all : List (Addr × Obj)} (N : News h₀ L s₃.heap all) (hm : ∀ q ∈ (I, oI) :: (C, oC) :: (D, lst (out c)) :: nw c', q ∈ all) (p : P (i + 1) c') (ho : out c' = out c ++ [y]) : CEnd nw P out Gd h₀ L m I oI C oC D i c y s₃ :=
  ⟨c', g, F, fun q hq => N q (hm q hq), p, ho⟩

/-- what the source of a comprehension has to show -/
def CSrc (prog : Program) (w : World) (A : Around) (h₀ : Heap) (L : Addr) (m : Str → Option Value) (scope : Scope) (cl : List (Str × Addr)) (env : Env) (x : Str) (elt : Expr) (Fin : Addr → List Value → List (Addr × Obj) → Shared → Prop) (it : Value) (s₂ : Shared) : Prop :=
  ∃ (σ : Type) (nw : σ → List (Addr × Obj)) (P : Nat → σ → Prop) (out : σ → List Value) (Gd : Shared → Prop) (c₀ : σ) (I n : Nat) (fp : List Addr) (V : Nat → Value → Prop) (St : Nat → Heap → Prop),
    it = .ref I ∧ Walks prog w A I fp [I] n V St ∧ n ≤ sizeLine ∧ St 0 s₂.heap ∧ (∀ i h, St i h → ∃ o, h.get? I = some o) ∧ (∀ b ∈ fp, b < s₂.heap.objs.size) ∧ (∀ b ∈ fp, b = I ∨ (∃ o, h₀.get? b = some o) ∨ ∃ o, ∀ c i, P i c → (b, o) ∈ nw c) ∧
    (∀ s h tk, Gd s → Gd { s with heap := h, toks := tk }) ∧ Gd s₂ ∧ Fr h₀ L s₂.heap m ∧ News h₀ L s₂.heap (nw c₀) ∧ I ≠ L ∧ h₀.get? I = none ∧ I < s₂.heap.objs.size ∧ (∀ i c, P i c → (out c).length = i ∧ ∀ p ∈ nw c, p.1 < I) ∧ P 0 c₀ ∧
    (∀ (i : Nat) (c : σ) (s₁ : Shared) (v : Value) (C D : Addr) (oI oC : Obj) (m₂ : Str → Option Value) (E' : Value → Shared → Prop), i < n → V i v → P i c → Gd s₁ → NsObj oC m₂ → m₂ x = some v → Fr h₀ L s₁.heap m → News h₀ L s₁.heap ((I, oI) :: (C, oC) :: (D, lst (out c)) :: nw c) →
      (∀ p ∈ nw c, p.1 < I) → I < D → D < C → wpAny (model prog w) A (eval elt (compEnvC scope cl C env)) (CEnd nw P out Gd h₀ L m I oI C oC D i c) E' s₁) ∧
    (∀ (D : Addr) (c : σ) (s₁ : Shared), P n c → Gd s₁ → (∀ p ∈ nw c, p.1 < D) → Fin D (out c) (nw c) s₁)

section
variable {prog : Program} {w : World} {A : Around} {E : Value → Shared → Prop} {s : Shared} {h₀ : Heap} {L : Addr} {m : Str → Option Value} {env : Env}

theorem comp_core {elt iter : Expr} {x : Str} {px : Pos} {scope : Scope} {cl : List (Str × Addr)} {pos : Pos} {Fin : Addr → List Value → List (Addr × Obj) → Shared → Prop} {it : Value} {RR : Value → Addr → Result → Shared → Prop}
    (hcell : ∀ y ∈ scope.names, y.2 ≠ .cell) (hkind : scope.kind = .function) (hx : scope.names.lookup x = some .local)
    (src : CSrc prog w A h₀ L m scope cl env x elt Fin it s)
    (hRR : ∀ D C s' m' ys news', Fr h₀ L s'.heap m → News h₀ L s'.heap ((D, lst ys) :: news') → s'.heap.Ns C m' → h₀.get? C = none → C ≠ L → (∀ p ∈ (D, lst ys) :: news', p.1 ≠ C) → Fin D ys news' s' → RR (.ref D) C (.ok .next) s') :
    wpAny (model prog w) A (newList []) (fun acc s₃ => wpAny (model prog w) A (newFunctionEnv scope env.globals cl [] env.qual none .none (some env)) (fun cenv s₄ =>
      codeAny (model prog w) A (.compStart (.ListComp elt [⟨.Name x px, iter, [], 0⟩] scope pos) 0 it acc { cenv with scope := relabel scope env }) (RR acc cenv.locals) s₄) E s₃) E s := by
  obtain ⟨σ, nw, P, out, Gd, c₀, I, n, fp, V, St, rfl, W, hsz, hst, hIo, hfp, hst', hGd, hgd, F, N, hIL, hI₀, hIlt, hP, hp0, turn, done⟩ := src
  refine wpAny_newObj_type (wpAny_newFunctionEnv hcell (by intro y hy; simp at hy) (fun h₁ hns₁ hsb₁ => ?_) hkind)
  dsimp only at hns₁ hsb₁ ⊢
  generalize hH : s.heap.push { cls := .type "list", dict := none, data := .seq ([] : List Value).toArray } = H at hns₁ hsb₁ ⊢
  generalize hDe : s.heap.objs.size = D at *
  have hC : H.objs.size = D + 1 := by rw [← hH, Heap.size_push, hDe]
  generalize hCe : H.objs.size = C at *
  have hDC : D < C := by rw [hC]; exact Nat.lt_succ_self _
  have old : ∀ b o, s.heap.get? b = some o → h₁.get? b = some o := fun b o e => by
    have hb : b < D := hDe ▸ Heap.lt_size e
    exact hsb₁.extBut b o (Nat.ne_of_lt (Nat.lt_trans hb hDC)) (Heap.get?_push_of_some _ (hH ▸ Heap.get?_push_of_some _ e))
  have new0 : ∀ a, D ≤ a → h₀.get? a = none := fun a ha => by
    cases e : h₀.get? a with
    | none => rfl
    | some o => exact absurd (Heap.lt_size (F.keep a o e)) (by rw [hDe]; exact Nat.not_lt.mpr ha)
  have hLD : L < D := hDe ▸ F.ns.lt
  have hD₀ := new0 D (Nat.le_refl _)
  have hC₀ := new0 C (Nat.le_of_lt hDC)
  have hDL : D ≠ L := Nat.ne_of_gt hLD
  have hCL : C ≠ L := Nat.ne_of_gt (Nat.lt_trans hLD hDC)
  have hID : I ≠ D := Nat.ne_of_lt hIlt
  have hIC : I ≠ C := Nat.ne_of_lt (Nat.lt_trans hIlt hDC)
  have hDf : ∀ b ∈ fp, b ≠ D := fun b hb => Nat.ne_of_lt (hfp b hb)
  have hCf : ∀ b ∈ fp, b ≠ C := fun b hb => Nat.ne_of_lt (Nat.lt_trans (hfp b hb) hDC)
  have hacc : h₁.get? D = some (lst []) := hsb₁.extBut _ _ (Nat.ne_of_lt hDC) (Heap.get?_push_of_some _ (hH ▸ (hDe ▸ Heap.get?_push_size _ rfl)))
  have hout : out c₀ = [] := List.length_eq_zero_iff.mp (hP 0 c₀ hp0).1
  have loop : codeAny (model prog w) A (.compLoop (.ListComp elt [⟨.Name x px, iter, [], 0⟩] scope pos) 0 (.ref I) (.ref D) (compEnvC scope cl C env)) (RR (.ref D) C) { s with heap := h₁, toks := s.toks + ([] : List (Str × Value)).length } := by
    refine codeAny_compLoop_tests (fun k s' => ∃ i c m', i ≤ n ∧ k = n + 1 - i ∧ P i c ∧ Gd s' ∧ St i s'.heap ∧ Fr h₀ L s'.heap m ∧ s'.heap.Ns C m' ∧ News h₀ L s'.heap ((D, lst (out c)) :: nw c)) ?_ (n + 1)
      ⟨0, c₀, _, Nat.zero_le _, rfl, hp0, hGd _ _ _ hgd, W.frame _ _ _ hst fun b _ o e => old b o e, F.keeps old, hns₁, fun p hp => ?_⟩
    · rintro k s' ⟨i, c, m', hi, rfl, hPi, hg', hst₁, F', hn', N'⟩
      have hlI := (hP i c hPi).2
      have ltI : ∀ p ∈ (D, lst (out c)) :: nw c, p.1 ≠ I := fun p hp => by
        rcases List.mem_cons.mp hp with rfl | hp
        · exact Ne.symm hID
        · exact Nat.ne_of_lt (hlI p hp)
      by_cases hlt : i < n
      · refine W.item i _ _ _ hlt hst₁ fun v h₂ tk₂ hV hst₂ hk₂ => ?_
        have F₂ := fr_but F' hk₂ (Ne.symm hIL) hI₀
        have N₂ := news_but N' hk₂ ltI
        refine wpAny_assign_Name (wpAny_storeName_local (lookup_relabel_local hx) (hn'.at' fun o e => hk₂ _ o (by simpa using Ne.symm hIC) e) (fun h₃ hn₃ hs₃ => ?_) (by simp [compEnvC, relabel, hkind]))
        refine wpAny_tests_nil ?_
        simp only [if_true]
        have hst₃ : St (i + 1) h₃ := W.frame _ _ _ hst₂ fun b hb o e => hs₃.extBut b o (hCf b hb) e
        obtain ⟨oI, heI⟩ := hIo _ _ hst₃
        obtain ⟨oC, heC, hoC⟩ := ns_obj hn₃
        have F₃ : Fr h₀ L h₃ m := F₂.change hs₃ hCL hC₀
        have N₃ : News h₀ L h₃ ((I, oI) :: (C, oC) :: (D, lst (out c)) :: nw c) := fun p hp => by
          rcases List.mem_cons.mp hp with rfl | hp
          · exact ⟨heI, hIL, hI₀⟩
          · rcases List.mem_cons.mp hp with rfl | hp
            · exact ⟨heC, hCL, hC₀⟩
            · refine ⟨hs₃.extBut _ _ ?_ (N₂ p hp).1, (N₂ p hp).2⟩
              rcases List.mem_cons.mp hp with rfl | hp
              · exact Nat.ne_of_lt hDC
              · exact Nat.ne_of_lt (Nat.lt_trans (hlI p hp) (Nat.lt_trans hIlt hDC))
        refine wpAny_mono (turn i c { s' with heap := h₃, toks := _ } v C D oI oC _ _ hlt hV hPi (hGd _ _ _ hg') hoC (by simp) F₃ N₃ hlI hIlt hDC) (fun y s₄ h₄ => ?_) fun _ _ e => e
        obtain ⟨c', hg₄, F₄, N₄, hP₄, ho₄⟩ := h₄
        have zI := (N₄ _ (.head _)).1
        have zC := (N₄ _ (.tail _ (.head _))).1
        have zD := (N₄ _ (.tail _ (.tail _ (.head _)))).1
        have N₅ : News h₀ L s₄.heap (nw c') := fun p hp => N₄ p (.tail _ (.tail _ (.tail _ hp)))
        have hst₄ : St (i + 1) s₄.heap := W.frame _ _ _ hst₃ fun b hb o e => by
          rcases hst' b hb with rfl | ⟨o₁, e₁⟩ | ⟨o₁, hin⟩
          · rw [heI] at e; cases e; exact zI
          · rw [F₃.keep b o₁ e₁] at e; cases e; exact F₄.keep b _ e₁
          · have q := (N₃ _ (.tail _ (.tail _ (.tail _ (hin c i hPi))))).1
            rw [q] at e; cases e
            exact (N₅ _ (hin c' _ hP₄)).1
        refine append_at (hsz := by show (out c).toArray.size ≤ sizeLine; rw [List.size_toArray, (hP i c hPi).1]; exact Nat.le_trans hi hsz) zD fun h₅ hs₅ hD₅ => ?_
        refine ⟨n + 1 - (i + 1), by omega, i + 1, c', _, hlt, rfl, hP₄, hGd _ _ _ hg₄, W.frame _ _ _ hst₄ fun b hb o e => hs₅.extBut b o (hDf b hb) e, F₄.change hs₅ hDL hD₀, (hoC.ns zC).sameBut hs₅ (Nat.ne_of_gt hDC), fun p hp => ?_⟩
        rcases List.mem_cons.mp hp with rfl | hp
        · exact ⟨hD₅.trans (congrArg some (by rw [ho₄]; exact lst_snoc (out c) y)), hDL, hD₀⟩
        · exact ⟨hs₅.extBut _ _ (Nat.ne_of_lt (Nat.lt_trans ((hP _ _ hP₄).2 p hp) hIlt)) (N₅ p hp).1, (N₅ p hp).2⟩
      · obtain rfl : i = n := Nat.le_antisymm hi (Nat.not_lt.mp hlt)
        refine W.done _ _ _ hst₁ fun h₂ tk₂ hk₂ => ?_
        have ltD : ∀ p ∈ nw c, p.1 < D := fun p hp => Nat.lt_trans (hlI p hp) hIlt
        refine hRR D C { s' with heap := h₂, toks := tk₂ } _ (out c) (nw c) (fr_but F' hk₂ (Ne.symm hIL) hI₀) (news_but N' hk₂ ltI) (hn'.at' fun o e => hk₂ _ o (by simpa using Ne.symm hIC) e) hC₀ hCL (fun p hp => ?_) (done D c _ hPi (hGd _ _ _ hg') ltD)
        rcases List.mem_cons.mp hp with rfl | hp
        · exact Nat.ne_of_lt hDC
        · exact Nat.ne_of_lt (Nat.lt_trans (ltD p hp) hDC)
    · rw [hout] at hp
      rcases List.mem_cons.mp hp with rfl | hp
      · exact ⟨hacc, hDL, hD₀⟩
      · exact ⟨old _ _ (N p hp).1, (N p hp).2⟩
  exact codeAny_compStart_list loop (W.self 0 _ _ _ (W.frame _ _ _ hst fun b _ o e => old b o e) loop)

def CFinE (h₀ : Heap) (L : Addr) (m : Str → Option Value) (Q : Value → Shared → Prop) (D : Addr) (ys : List Value) (news : List (Addr × Obj)) (s : Shared) : Prop :=
  ∀ h, Fr h₀ L h m → News h₀ L h ((D, lst ys) :: news) → Q (.ref D) { s with heap := h }
def CFinA (h₀ : Heap) (L : Addr) (m : Str → Option Value) (y : Str) (Q : Flow → Shared → Prop) (D : Addr) (ys : List Value) (news : List (Addr × Obj)) (s : Shared) : Prop :=
  ∀ h tk, Fr h₀ L h (fun z => if z = y then some (.ref D) else m z) → News h₀ L h ((D, lst ys) :: news) → Q .next { s with heap := h, toks := tk }

theorem ListComp_G {elt iter : Expr} {x : Str} {px : Pos} {scope : Scope} {cl : List (Str × Addr)} {pos : Pos} {Q : Value → Shared → Prop} (_F : Fr h₀ L s.heap m)
    (hclos : closureFor scope env = pure cl) (hcell : ∀ y ∈ scope.names, y.2 ≠ .cell) (hkind : scope.kind = .function)
    (hnames : ∀ y ∈ scope.names, y.2 = .local → scope.names.lookup y.1 = some .local) (hx : scope.names.lookup x = some .local)
    (h : wpAny (model prog w) A (eval iter env) (fun xv s₁ => wpAny (model prog w) A (pyIter xv) (CSrc prog w A h₀ L m scope cl env x elt (CFinE h₀ L m Q)) E s₁) E s)
    (hs : ∀ x, foldedSetIterable iter env x = pure x := by intro _; rfl) :
    wpAny (model prog w) A (eval (.ListComp elt [⟨.Name x px, iter, [], 0⟩] scope pos) env) Q E s := by
  rw [eval_ListComp]
  refine wpAny_comprehension_free (use := none) rfl hs hclos hkind hnames (wpAny_mono h (fun xv s₁ h₁ => wpAny_mono h₁ (fun it s₂ h₂ => ?_) fun _ _ e => e) fun _ _ e => e)
  refine comp_core hcell hkind hx h₂ fun D C s' m' ys news' F' N' hn hC₀ hCL off fin => ?_
  exact ⟨m', hn, fun h'' hs'' => fin h'' (F'.change hs'' hCL hC₀) fun p hp => ⟨hs''.extBut _ _ (off p hp) (N' p hp).1, (N' p hp).2⟩⟩

theorem Assign_ListComp_G {elt iter : Expr} {x y : Str} {px py : Pos} {scope : Scope} {cl : List (Str × Addr)} {pos spos : Pos} {Q : Flow → Shared → Prop} (_F : Fr h₀ L s.heap m) (hLe : env.locals = L)
    (hsw : swapsWith (.ListComp elt [⟨.Name x px, iter, [], 0⟩] scope pos) (some (.Name y py)) spos.line env = pure true)
    (hclos : closureFor scope env = pure cl) (hcell : ∀ z ∈ scope.names, z.2 ≠ .cell) (hkind : scope.kind = .function)
    (hnames : ∀ z ∈ scope.names, z.2 = .local → scope.names.lookup z.1 = some .local) (hx : scope.names.lookup x = some .local)
    (hy : env.kindOf y = some .local) (hp : (env.scope.kind == .class || (env.scope.kind == .module && env.locals != env.globals)) = false)
    (h : wpAny (model prog w) A (eval iter env) (fun xv s₁ => wpAny (model prog w) A (pyIter xv) (CSrc prog w A h₀ L m scope cl env x elt (CFinA h₀ L m y Q)) E s₁) E s)
    (hs : ∀ x, foldedSetIterable iter env x = pure x := by intro _; rfl) :
    wpAny (model prog w) A (exec (.Assign [.Name y py] (.ListComp elt [⟨.Name x px, iter, [], 0⟩] scope pos) spos) env) Q E s := by
  subst hLe
  rw [exec_Assign_Name_used _ _ _ _ hsw]
  refine wpAny_bind (wpAny_standAt (wpAny_bind ?_))
  show wpAny _ A (do let _ ← comprehension (.ListComp elt [⟨.Name x px, iter, [], 0⟩] scope pos) scope env _ (newList []) false (eval iter env) (some (assign (.Name y py) env))) _ _ s
  refine wpAny_bind (wpAny_mono (wpAny_comprehension_free (use := some (assign (.Name y py) env)) (Q := fun _ s' => Q .next s') rfl hs hclos hkind hnames
    (wpAny_mono h (fun xv s₁ h₁ => wpAny_mono h₁ (fun it s₂ h₂ => ?_) fun _ _ e => e) fun _ _ e => e)) (fun _ s' hq => wpAny_pure (wpAny_pure hq)) fun _ _ e => e)
  refine comp_core hcell hkind hx h₂ fun D C s' m' ys news' F' N' hn hC₀ hCL off fin => ?_
  show wpAny _ A (assign (.Name y py) env (.ref D)) _ _ _
  refine wpAny_assign_Name (wpAny_storeName_local hy F'.ns (fun h₂ hn₂ hs₂ => ?_) hp)
  have F₂ := F'.set hn₂ hs₂
  have N₂ : News h₀ env.locals h₂ ((D, lst ys) :: news') := N'.set hs₂
  exact ⟨m', hn.sameBut hs₂ hCL, fun h'' hs'' => fin h'' _ (F₂.change hs'' hCL hC₀) fun p hp => ⟨hs''.extBut _ _ (off p hp) (N₂ p hp).1, (N₂ p hp).2⟩⟩

/-- a list as the source -/
theorem csrc_list {σ : Type} {scope : Scope} {cl : List (Str × Addr)} {x : Str} {elt : Expr} {Fin : Addr → List Value → List (Addr × Obj) → Shared → Prop} {ax : Addr} {its : Array Value}
    (nw : σ → List (Addr × Obj)) (P : Nat → σ → Prop) (out : σ → List Value) (Gd : Shared → Prop) (c₀ : σ) (hh : A.handled = none)
    (hsrc : h₀.IsList ax its ∨ ∃ o, o.cls = .type "list" ∧ (∃ n, o.data = .seq its n) ∧ (ax, o) ∈ nw c₀ ∧ ∀ c i, P i c → (ax, o) ∈ nw c) (hsz : its.size ≤ sizeLine)
    (hGd : ∀ s h tk, Gd s → Gd { s with heap := h, toks := tk }) (hgd : Gd s) (F : Fr h₀ L s.heap m) (N : News h₀ L s.heap (nw c₀)) (hp0 : P 0 c₀)
    (hadr : ∀ i c, P i c → (out c).length = i ∧ ∀ p ∈ nw c, p.1 ∈ (nw c₀).map (·.1))
    (turn : ∀ (i : Nat) (c : σ) (s₁ : Shared) (v : Value) (I C D : Addr) (oI oC : Obj) (m₂ : Str → Option Value) (E' : Value → Shared → Prop), its[i]? = some v → P i c → Gd s₁ → NsObj oC m₂ → m₂ x = some v → Fr h₀ L s₁.heap m → News h₀ L s₁.heap ((I, oI) :: (C, oC) :: (D, lst (out c)) :: nw c) →
      (∀ p ∈ nw c, p.1 < I) → I < D → D < C → wpAny (model prog w) A (eval elt (compEnvC scope cl C env)) (CEnd nw P out Gd h₀ L m I oI C oC D i c) E' s₁)
    (done : ∀ (D : Addr) (c : σ) (s₁ : Shared), P its.size c → Gd s₁ → (∀ p ∈ nw c, p.1 < D) → Fin D (out c) (nw c) s₁) :
    wpAny (model prog w) A (pyIter (.ref ax)) (CSrc prog w A h₀ L m scope cl env x elt Fin) E s := by
  have hlt := lt_of_news N
  have hl : s.heap.IsList ax its := by
    rcases hsrc with ⟨o, e, r⟩ | ⟨o, h1, h2, h3, _⟩
    · exact ⟨o, F.keep _ _ e, r⟩
    · exact ⟨o, (N _ h3).1, h1, h2⟩
  have haxlt : ax < s.heap.objs.size := by obtain ⟨_, e, _⟩ := hl; exact Heap.lt_size e
  obtain ⟨hIL, hI₀⟩ := fresh_above F (Nat.le_refl _)
  have up : ∀ o b o', s.heap.get? b = some o' → (s.heap.push o).get? b = some o' := fun o b o' e => Heap.get?_push_of_some _ e
  have hadr' : ∀ i c, P i c → (out c).length = i ∧ ∀ p ∈ nw c, p.1 < s.heap.objs.size := fun i c hP => ⟨(hadr i c hP).1, fun p hp => by
    obtain ⟨q, hq, e⟩ := List.mem_map.mp ((hadr i c hP).2 p hp)
    rw [← e]; exact hlt q hq⟩
  refine wpAny_pyIter_list hl ⟨σ, nw, P, out, Gd, c₀, s.heap.objs.size, its.size, _, _, _, rfl, Walks.list hh s.heap.objs.size ax (Nat.ne_of_lt haxlt) its, hsz, ⟨⟨_, Heap.get?_push_size _ rfl, rfl, rfl⟩, hl.push _⟩, fun i h st => by obtain ⟨o, e, _⟩ := st.1; exact ⟨o, e⟩, ?_, ?_, hGd, hGd _ _ _ hgd, F.keeps (up _), N.keeps (up _), hIL, hI₀, ?_, hadr', hp0, ?_, done⟩
  · intro b hb
    show b < (s.heap.push _).objs.size
    rw [Heap.size_push]
    rcases List.mem_cons.mp hb with rfl | hb
    · exact Nat.lt_succ_self _
    · rw [List.mem_singleton.mp hb]; exact Nat.lt_succ_of_lt haxlt
  · intro b hb
    rcases List.mem_cons.mp hb with rfl | hb
    · exact .inl rfl
    · rw [List.mem_singleton.mp hb]
      rcases hsrc with ⟨o, e, _⟩ | ⟨o, _, _, _, h4⟩
      · exact .inr (.inl ⟨o, e⟩)
      · exact .inr (.inr ⟨o, h4⟩)
  · show s.heap.objs.size < (s.heap.push _).objs.size
    rw [Heap.size_push]; exact Nat.lt_succ_self _
  · intro i c s₁ v C D oI oC m₂ E' hi hV hP hg hoC hx F₁ N₁ h1 h2 h3
    exact turn i c s₁ v _ C D oI oC m₂ E' hV hP hg hoC hx F₁ N₁ h1 h2 h3
end
end Mine
end PartL4_
section PartP2_
open PySem PySem.W PyProof.Rows PySem.Calls PySem.Spec PySem.NumText PySem.StrLaws
set_option maxRecDepth 100000
set_option maxHeartbeats 4000000
namespace Mine
def dig (n : Nat) : List Nat := (Nat.toDigits 10 n).map Char.toNat
/-- a whole number, written -/
def num : Int → List Nat
  | .ofNat n => dig n
  | .negSucc n => 45 :: dig (n + 1)
theorem signs_T {x : Str} {l : List Nat} (h : x.cps.toList = l) : x = T l := by rw [T_of x, h]
theorem str_num (z : Int) : Str.ofString (toString z) = T (num z) := by
  refine signs_T ?_
  cases z with
  | ofNat n => exact KIN.signs_num n
  | negSucc n =>
    rw [signs_ofString]
    show ("-" ++ Nat.repr (n + 1)).toList.map Char.toNat = _
    rw [String.toList_append, List.map_append, Nat.toList_repr]
    rfl
theorem dig_digits (n : Nat) : ∀ c ∈ dig n, 48 ≤ c ∧ c ≤ 57 := by
  intro c hc
  obtain ⟨ch, hch, e⟩ := List.mem_map.mp hc
  have r := digit_range (Nat.isDigit_of_mem_toDigits (by decide) (by decide) hch)
  rw [← e]
  exact r
theorem dig_ne (n : Nat) : dig n ≠ [] := by
  intro e
  have h := toDigits_len_ge 10 n
  unfold dig at e
  rw [List.map_eq_nil_iff.mp e] at h
  exact absurd h (by decide)
theorem dig_len {n : Nat} (h : n < 10 ^ 20) : (dig n).length ≤ 20 := by
  unfold dig
  rw [List.length_map]
  exact (Nat.length_toDigits_le_iff (by decide) (by decide)).mpr h
theorem num_len {z : Int} (h1 : -(10 ^ 20) < z) (h2 : z < 10 ^ 20) : (num z).length ≤ 21 := by
  cases z with
  | ofNat n => 
    have := dig_len (n := n) (by have h3 : (Int.ofNat n) = (n : Int) := rfl; omega)
    show (dig n).length ≤ 21
    omega
  | negSucc n =>
    have := dig_len (n := n + 1) (by have h3 : (Int.negSucc n) = -((n : Int) + 1) := rfl; omega)
    show (dig (n + 1)).length + 1 ≤ 21
    omega
theorem num_ne (z : Int) : num z ≠ [] := by
  cases z with
  | ofNat n => exact dig_ne n
  | negSucc n => exact List.cons_ne_nil _ _
theorem num_signs (z : Int) : ∀ c ∈ num z, c = 45 ∨ (48 ≤ c ∧ c ≤ 57) := by
  cases z with
  | ofNat n => exact fun c hc => .inr (dig_digits n c hc)
  | negSucc n =>
    intro c hc
    rcases List.mem_cons.mp hc with rfl | hc
    · exact .inl rfl
    · exact .inr (dig_digits _ c hc)
theorem dig_val (n : Nat) : digitsVal (dig n) = n := KIN.val_back n
theorem num_reads {z : Int} (h1 : -(10 ^ 20) < z) (h2 : z < 10 ^ 20) : PySem.intText? (T (num z)) = some z := by
  have hl := num_len h1 h2
  cases z with
  | ofNat n =>
    have e := intText_digits (x := T (num (.ofNat n))) (by rw [T_list]; exact dig_digits n) (by rw [T_list]; exact dig_ne n) (by rw [T_len]; omega)
    rw [T_list] at e
    rw [e]
    show some ((digitsVal (dig n) : Nat) : Int) = _
    rw [dig_val]; rfl
  | negSucc n =>
    have e := intText_neg (x := T (num (.negSucc n))) (cs := dig (n + 1)) (by rw [T_list]; rfl) (dig_digits _) (dig_ne _) (by rw [T_len]; omega)
    rw [e, dig_val]; rfl

/-- texts, joined by one -/
def inter (sep : List Nat) : List (List Nat) → List Nat
  | [] => []
  | [x] => x
  | x :: y :: r => x ++ sep ++ inter sep (y :: r)
theorem T_join (sep : List Nat) (ls : List (List Nat)) : Txt.join (T sep) (ls.map T) = T (inter sep ls) := by
  unfold Txt.join
  rw [StrLaws.glued_eq_join]
  induction ls with
  | nil => rfl
  | cons c r ih =>
    cases r with
    | nil => rfl
    | cons d r =>
      show T c ++ T sep ++ Str.join (T sep) ((d :: r).map T) = _
      rw [ih, T_append, T_append]; rfl
theorem inter_len (sep : List Nat) (ls : List (List Nat)) : (inter sep ls).length ≤ (ls.map fun l => l.length + sep.length).sum := by
  induction ls with
  | nil => simp [inter]
  | cons c r ih =>
    cases r with
    | nil => simp [inter]
    | cons d r =>
      show (c ++ sep ++ inter sep (d :: r)).length ≤ _
      rw [List.length_append, List.length_append, List.map_cons, List.sum_cons]
      omega

section
variable {prog : Program} {w : World} {A : Around} {E : Value → Shared → Prop} {s : Shared} {h₀ : Heap} {L : Addr} {m : Str → Option Value} {news : List (Addr × Obj)} {Q : Value → Shared → Prop}
theorem r_strint {z : Int} {t : Tok} (h1 : -(10 ^ 20) < z) (h2 : z < 10 ^ 20) (h : Q (.str (T (num z)) s.toks) { s with toks := s.toks + 1 }) : wpAny (model prog w) A (call (.type "str") [.int z t]) Q E s := by
  refine P.str_of_int (shown (N := 10 ^ 20) h1 h2 (by decide +kernel)) ?_
  rw [show (toString z : Str) = T (num z) from str_num z]
  exact h
theorem r_intstr {z : Int} {t : Tok} (h1 : -(10 ^ 20) < z) (h2 : z < 10 ^ 20) (h : Q (.int z s.toks) { s with toks := s.toks + 1 }) : wpAny (model prog w) A (call (.type "int") [.str (T (num z)) t]) Q E s :=
  KIN.call_text (num_reads h1 h2) (by have := num_len h1 h2; rw [T_len]; omega) h
/-- a list of texts, joined -/
theorem r_joinL {D : Addr} {vs : Array Value} {n : Nat} {sep : List Nat} {ls : List (List Nat)} {t : Tok} (N : News h₀ L s.heap news) (hm : (D, ({ cls := .type "list", data := .seq vs n } : Obj)) ∈ news) (hs : StrsAre vs.toList (ls.map T)) (hsep : sep.length ≤ 16) (hb : (ls.map fun l => l.length + 1).sum ≤ 1048576)
    (h : ∀ t' k, Q (.str (T (inter sep ls)) t') { s with toks := k }) : wpAny (model prog w) A (call (.builtin "str.join") [.str (T sep) t, .ref D]) Q E s := by
  refine join_listW (ys := ls.map T) ⟨_, (N _ hm).1, rfl, n, rfl⟩ hs (by simpa using hsep) ?_ fun t' k => ?_
  · have e : ((ls.map T).map (·.length)).sum + (ls.map T).length = (ls.map fun l => l.length + 1).sum := by
      clear hs hb h hm
      induction ls with
      | nil => rfl
      | cons c r ih => simp only [List.map_cons, List.sum_cons, T_len, List.length_cons] at ih ⊢; omega
    rw [e]; exact hb
  · rw [T_join]; exact h t' k
end
theorem r_replace {prog : Program} {w : World} {A : Around} {E : Value → Shared → Prop} {s : Shared} {Q : Value → Shared → Prop} {l : List Nat} {c : Nat} {t u v : Tok} (hu : u ≠ 0) (hv : v ≠ 0) (huv : u ≠ v) (hl : (T l).length ≤ 1048576)
    (h : ∀ t' k, Q (.str (T (dbl c l)) t') { s with toks := k }) : wpAny (model prog w) A (call (.builtin "str.replace") [.str (T l) t, .str (T [c]) u, .str (T [c, c]) v]) Q E s := by
  refine SC.replaceW hu hv huv ?_ hl (by simp) fun t' k => ?_
  · rw [T_beq]; simp
  · rw [replace_T]; exact h t' k
theorem dbl_len (c : Nat) (l : List Nat) : (dbl c l).length ≤ 2 * l.length := by
  induction l with
  | nil => simp [dbl]
  | cons a r ih =>
    unfold dbl
    split <;> simp only [List.length_cons] <;> omega

theorem hide_list {h₀ h : Heap} {L ax : Addr} {m : Str → Option Value} {ps : Array Value} {its : Array Value} (F : Fr h₀ L h m) (hl : h₀.IsList ax its) (h90 : h.get? 90 = some (tabObj ps)) : (h.hide 90).IsList ax its := by
  obtain ⟨o, e, c, r⟩ := hl
  refine ⟨o, (Heap.hide_ne h fun q => ?_).trans (F.keep _ _ e), c, r⟩
  have := F.keep _ _ e
  rw [q, h90] at this; cases this; cases c
theorem Spc.introC {w : World} {f : Addr} {vs : List Value} {d u : Nat} {Pre : Heap → Prop} {R : Heap → Value → Heap → Prop}
    {name qual : Str} {params : Arguments} {body : List Stmt} {scope : Scope} {dV kV doc pm cdv ct oc : Value} {an od : Option Addr} {osl : Array (Option Value)} (binds : List (Str × Value))
    (ho : (hd.heap_39 w.params).lookup f = some ⟨oc, od, .func (fnOf name qual params body scope dV kV doc pm an cdv ct), osl⟩) (hcd : codeIn (hd.heap_39 w.params) cdv qual = true)
    (hbind : bindArgs (fnOf name qual params body scope dV kV doc pm an cdv ct) ⟨vs, []⟩ = pure binds)
    (hkind : (binds.all fun y => scope.names.lookup y.1 == some .local || scope.names.lookup y.1 == some .cell) = true) (hnd : ((cellsFrom 0 scope.names []).map (·.1)).Nodup)
    (hco : scope.isCoroutine = false) (hgen : scope.isGenerator = false) (hk : scope.kind = .function)
    (h : ∀ (p : Program) (loose : List Str) (mean : ExcName → Option Value) (mg mb : Str → Option Value) (dp un : Nat) (gd : Option (List Code)) (outer : List Env) (A₀ : Around) (base h₀ : Heap) (L : Addr) (s : Shared) (cells : List (Addr × Obj)),
      Below A₀ base outer h₀ → Fr h₀ L s.heap (bindL (envOfC qual scope L f cdv).kindOf binds fun _ => none) → News h₀ L s.heap cells → CellsAre (bindC (envOfC qual scope L f cdv).kindOf binds fun _ => none) (cellsFrom (L + 1) scope.names []) cells →
      (hd.heap_39 w.params).In h₀ → Top p loose mean mg mb h₀ → dp + d < recursionLimit + 1 → un + u < cLine + 3 → Pre h₀ →
      wpAny (model PySem.Challenge.rw_ew0021_01.row.prog w) (ktrTop dp un gd qual scope L f cdv (cellsFrom (L + 1) scope.names []) outer) (execs body (envOfC qual scope L f cdv)) (Back h₀ L (R h₀) s) (fun _ _ => False) s)
    (hd0 : 0 < d := by decide) : Spc w f vs d u Pre R := by
  intro p loose mean mg mb dp un gd cn cs a ccd cl outer A₀ base h₀ L m s Q E B F X T hke hd hu hp hret
  refine wpAny_call ?_
  refine codeAny_call_function (by show dp < recursionLimit; omega) (X.keeps F.keep _ _ ho) rfl hco hgen rfl (codeRec_of (X.keeps F.keep) hcd) ((BindsTo.of_eq hbind) _ _ _ _ ?_)
  refine wpAny_newFunctionEnv_cells hk (kindsX hkind _) fun env' he s' x => ?_
  subst he
  refine ⟨(T.nolimit.keeps F.keep).keeps x.toInCall.keep, codeAny_func ?_⟩
  obtain ⟨h₁, tk, rfl, _⟩ := x.done
  have hk₁ := x.toInCall.keep
  obtain ⟨cells, NC, Y⟩ := Cl.news (h₀ := s.heap) (Nat.le_refl _) fun n c hm => ⟨x.cell n c (lookup_of_mem_nodup (cellsFrom_names scope.names 0 (s.heap.objs.size + 1) [] [] rfl ▸ hnd) hm), x.above n c hm⟩
  have B' := pushX (env := envX cn cs L a ccd cl) B F rfl hke
  have F₁ : Fr s.heap s.heap.objs.size h₁ (bindL (envOfC qual scope s.heap.objs.size f cdv).kindOf binds fun _ => none) := ⟨x.toInCall.ns, hk₁, Nat.le_refl _⟩
  have h9 := h p loose mean mg mb (dp + 1) (un + 3) gd (envX cn cs L a ccd cl :: outer) (A₀.deeper (envX cn cs L a ccd cl)) base s.heap s.heap.objs.size { s with heap := h₁, toks := tk } cells B' F₁ NC Y (X.keeps F.keep) (T.keeps F.keep) (by omega) (by omega) hp
  refine wpAny_mono (A := (ktrTop dp un gd cn cs L a ccd cl outer).deeper (envOfC qual scope s.heap.objs.size f cdv)) h9 ?_ (fun _ _ x => x.elim)
  rintro fl s' ⟨h', tk', m', rfl, F', r⟩
  cases fl <;> exact hret _ h' tk' F'.keep r
theorem sum_le {k : Nat} : ∀ {ls : List (List Nat)}, (∀ l ∈ ls, l.length ≤ k) → (ls.map fun l => l.length + 1).sum ≤ ls.length * (k + 1)
  | [], _ => by simp
  | l :: r, h => by
    have h1 := h l (.head _)
    have h2 := sum_le fun x hx => h x (.tail _ hx)
    rw [List.map_cons, List.sum_cons, List.length_cons, Nat.add_mul]
    omega
theorem Spc.use1 {w : World} {f : Addr} {vs : List Value} {d u : Nat} {Pre : Heap → Prop} {R : Heap → Value → Heap → Prop} (S : Spc w f vs d u Pre R)
    {p : Program} {loose : List Str} {mean : ExcName → Option Value} {mg mb : Str → Option Value} {dp un : Nat} {gd : Option (List Code)} {cn : Str} {cs : Scope} {a : Addr} {ccd : Value} {cl : List (Str × Addr)} {outer : List Env} {A₀ : Around} {base h₀ : Heap} {L : Addr} {m : Str → Option Value} {news : List (Addr × Obj)} {s : Shared} {Q E : Value → Shared → Prop}
    (g : Below A₀ base outer h₀ ∧ Fr h₀ L s.heap m ∧ (hd.heap_39 w.params).In h₀ ∧ News h₀ L s.heap news ∧ Top p loose mean mg mb h₀)
    (n : dp + d < recursionLimit ∧ un + u < cLine) (hp : Pre s.heap)
    (hret : ∀ v h' tk', Fr h₀ L h' m → News h₀ L h' news → R s.heap v h' → Q v { s with heap := h', toks := tk' }) (hke : cs.kind = .function := by rfl) :
    wpAny (model PySem.Challenge.rw_ew0021_01.row.prog w) (ktrTop dp un gd cn cs L a ccd cl outer) (call (.ref f) vs) Q E s :=
  S.use g.1 g.2.1 g.2.2.1 g.2.2.2.1 g.2.2.2.2 hke n.1 n.2 hp hret
theorem SpcG.use1 {w : World} {f : Addr} {vs : List Value} {d u : Nat} {Pre : Heap → Prop} {R : Value → Prop} (S : SpcG w f vs d u Pre R)
    {p : Program} {loose : List Str} {mean : ExcName → Option Value} {mg mb : Str → Option Value} {dp un : Nat} {gd : Option (List Code)} {cn : Str} {cs : Scope} {a : Addr} {ccd : Value} {cl : List (Str × Addr)} {outer : List Env} {A₀ : Around} {base h₀ : Heap} {L : Addr} {m : Str → Option Value} {news : List (Addr × Obj)} {s : Shared} {Q E : Value → Shared → Prop} {ps : Array Value}
    (g : Below A₀ base outer h₀ ∧ Fr h₀ L s.heap m ∧ (hd.heap_39 w.params).In h₀ ∧ Top p loose mean mg mb h₀ ∧ CodeHd h₀ 94 90 ∧ h₀.get? 90 = none ∧ AllBare s.gens ∧ TriplesOk ps.toList)
    (N : News h₀ L s.heap ((90, tabObj ps) :: news)) (hne : ∀ q ∈ news, q.1 ≠ 90)
    (n : dp + d < recursionLimit ∧ un + u < cLine) (hp : Pre (s.heap.hide 90))
    (hret : ∀ v s' ps', Fr h₀ L s'.heap m → News h₀ L s'.heap ((90, tabObj ps') :: news) → TriplesOk ps'.toList → AllBare s'.gens → s'.os = s.os → R v → Q v s') (hke : cs.kind = .function := by rfl) :
    wpAny (model PySem.Challenge.rw_ew0021_01.row.prog w) (ktrTop dp un gd cn cs L a ccd cl outer) (call (.ref f) vs) Q E s :=
  S.use g.1 g.2.1 g.2.2.1 N g.2.2.2.2.2.2.2 hne g.2.2.2.1 g.2.2.2.2.1 g.2.2.2.2.2.1 g.2.2.2.2.2.2.1 hke n.1 n.2 hp hret
end Mine
end PartP2_
section PartL5_
open PySem PySem.W PyProof.Rows PySem.Calls PySem.Spec
set_option maxRecDepth 100000
set_option maxHeartbeats 4000000
namespace Mine
open LCg (lst NsObj)
def Same (s s' : Shared) : Prop := s'.gens = s.gens ∧ s'.drawn = s.drawn ∧ s'.os = s.os
theorem Same.ex {s s' : Shared} (h : Same s s') : ∃ h k, s' = { s with heap := h, toks := k } := by
  obtain ⟨a, b, c, d, e⟩ := s'
  obtain ⟨h1, h2, h3⟩ := h
  dsimp only at h1 h2 h3
  subst h1 h2 h3
  exact ⟨_, _, rfl⟩
theorem Same.rfl {s : Shared} {h : Heap} {k : Nat} : Same s { s with heap := h, toks := k } := ⟨Eq.refl _, Eq.refl _, Eq.refl _⟩
section
variable {prog : Program} {w : World} {A : Around} {E : Value → Shared → Prop} {s : Shared} {h₀ : Heap} {L : Addr} {m : Str → Option Value} {env : Env}
/-- a range as the source -/
theorem csrc_range {σ : Type} {scope : Scope} {cl : List (Str × Addr)} {x : Str} {elt : Expr} {Fin : Addr → List Value → List (Addr × Obj) → Shared → Prop} {ax : Addr} {b : Int} {t u v : Tok} (n : Nat)
    (nw : σ → List (Addr × Obj)) (P : Nat → σ → Prop) (out : σ → List Value) (Gd : Shared → Prop) (c₀ : σ) (hh : A.handled = none)
    (hr : IsRange s.heap ax 0 b 1 t u v) (hb : b = n) (hn : n ≤ 1000)
    (hGd : ∀ s h tk, Gd s → Gd { s with heap := h, toks := tk }) (hgd : Gd s) (F : Fr h₀ L s.heap m) (N : News h₀ L s.heap (nw c₀)) (hp0 : P 0 c₀)
    (hadr : ∀ i c, P i c → (out c).length = i ∧ ∀ p ∈ nw c, p.1 ∈ (nw c₀).map (·.1))
    (turn : ∀ (i : Nat) (c : σ) (s₁ : Shared) (tv : Tok) (I C D : Addr) (oI oC : Obj) (m₂ : Str → Option Value) (E' : Value → Shared → Prop), i < n → P i c → Gd s₁ → NsObj oC m₂ → m₂ x = some (.int i tv) → Fr h₀ L s₁.heap m → News h₀ L s₁.heap ((I, oI) :: (C, oC) :: (D, lst (out c)) :: nw c) →
      (∀ p ∈ nw c, p.1 < I) → I < D → D < C → wpAny (model prog w) A (eval elt (compEnvC scope cl C env)) (CEnd nw P out Gd h₀ L m I oI C oC D i c) E' s₁)
    (done : ∀ (D : Addr) (c : σ) (s₁ : Shared), P n c → Gd s₁ → (∀ p ∈ nw c, p.1 < D) → Fin D (out c) (nw c) s₁) :
    wpAny (model prog w) A (pyIter (.ref ax)) (CSrc prog w A h₀ L m scope cl env x elt Fin) E s := by
  subst hb
  have hlt := lt_of_news N
  obtain ⟨hIL, hI₀⟩ := fresh_above F (Nat.le_refl _)
  have hadr' : ∀ i c, P i c → (out c).length = i ∧ ∀ p ∈ nw c, p.1 < s.heap.objs.size := fun i c hP => ⟨(hadr i c hP).1, fun p hp => by
    obtain ⟨q, hq, e⟩ := List.mem_map.mp ((hadr i c hP).2 p hp)
    rw [← e]; exact hlt q hq⟩
  have hsz : Builtin.Range.rangeSize 0 (n : Int) 1 = ((n : Nat) : Int) := by
    unfold Builtin.Range.rangeSize
    rw [if_pos (by decide)]
    split <;> omega
  have hsm : Builtin.Range.small 0 (n : Int) 1 = true := small_one (by decide) (by decide) (by omega) (by omega)
  refine wpAny_pyIter_range hr hsm ⟨σ, nw, P, out, Gd, c₀, s.heap.objs.size, n, _, _, _, rfl, LCg.range_walks hh 0 n, by rw [sizeLine_eq]; omega, by show IsRangeIter _ _ _ _ _; rw [hsz]; simpa using Heap.get?_push_size _ rfl, fun i h st => ⟨_, st⟩, ?_, ?_, hGd, hGd _ _ _ hgd, F.keeps fun _ _ e => Heap.get?_push_of_some _ e, N.keeps fun _ _ e => Heap.get?_push_of_some _ e, hIL, hI₀, ?_, hadr', hp0, ?_, done⟩
  · intro b hb
    rw [List.mem_singleton.mp hb]
    show s.heap.objs.size < (s.heap.push _).objs.size
    rw [Heap.size_push]; exact Nat.lt_succ_self _
  · intro b hb
    exact .inl (List.mem_singleton.mp hb)
  · show s.heap.objs.size < (s.heap.push _).objs.size
    rw [Heap.size_push]; exact Nat.lt_succ_self _
  · rintro i c s₁ v C D oI oC m₂ E' hi ⟨tv, rfl⟩ hP hg hoC hx F₁ N₁ h1 h2 h3
    rw [Int.zero_add] at hx
    exact turn i c s₁ tv _ C D oI oC m₂ E' hi hP hg hoC hx F₁ N₁ h1 h2 h3
end
theorem litN (n : Nat) : (@OfNat.ofNat Int n (@instOfNat n)) = ((@OfNat.ofNat Nat n (instOfNatNat n) : Nat) : Int) := rfl
theorem fdiv_nat (r d : Nat) : (r : Int).fdiv (d : Int) = ((r / d : Nat) : Int) := by
  rw [Int.fdiv_eq_ediv_of_nonneg _ (Int.natCast_nonneg d)]; rfl
theorem fmod_nat (r d : Nat) : (r : Int).fmod (d : Int) = ((r % d : Nat) : Int) := by
  rw [Int.fmod_eq_emod_of_nonneg _ (Int.natCast_nonneg d)]; rfl
section
variable {prog : Program} {w : World} {A : Around} {E : Value → Shared → Prop} {s : Shared} {Q : Value → Shared → Prop}
theorem r_fdiv {r d : Nat} {a b : Int} {t u : Tok} (ha : a = r) (hb : b = d) (hd : 0 < d) (hr : d < 2 ^ 30) (h : Q (.int ((r / d : Nat) : Int) s.toks) { s with toks := s.toks + 1 }) : wpAny (model prog w) A (binaryOp .FloorDiv (.int a t) (.int b u)) Q E s := by
  subst ha hb
  refine floordiv_int (by omega) ?_ (.inl (PyProof.noPylong_small (by omega)))
  rw [fdiv_nat]; exact h
theorem r_fmod {r d : Nat} {a b : Int} {t u : Tok} (ha : a = r) (hb : b = d) (hd : 0 < d) (h : Q (.int ((r % d : Nat) : Int) s.toks) { s with toks := s.toks + 1 }) : wpAny (model prog w) A (binaryOp .Mod (.int a t) (.int b u)) Q E s := by
  subst ha hb
  refine mod_int' (by omega) ?_
  rw [fmod_nat]; exact h
end
theorem nat_lit2 {a : Int} {n k : Nat} (h : a = n) : a + (k : Int) = ((n + k : Nat) : Int) := by omega
end Mine
end PartL5_
section Pre1_
open PySem PySem.W PyProof.Rows PySem.Calls PySem.Spec
set_option maxRecDepth 100000
set_option maxHeartbeats 8000000
namespace Mine
local macro_rules | `(tactic| walk_at "exec While") => `(tactic| refine Stop.mk ?_)
local macro_rules | `(tactic| walk_at "mine go") => `(tactic| repeat' (first | walk1 | (dsimp only; walk1)))
local macro_rules | `(tactic| walk_at "mine pins1") => `(tactic| first | exact List.forall_mem_nil _ | (refine List.forall_mem_cons.mpr ⟨by exact rfl, ?_⟩; walk_at "mine pins1"))
local macro_rules | `(tactic| walk_at "mine pins") => `(tactic| ((try dsimp only); walk_at "mine pins1"))
local macro_rules | `(tactic| walk_at "mine lit") => `(tactic| with_reducible first | exact lit_0 | exact lit_q2 | exact lit_q1 | exact lit_bs | exact lit_stop | exact lit_lb | exact lit_rb | exact lit_comma | exact lit_eq | exact lit_sep | exact lit_NULL | exact lit_TRUE | exact lit_FALSE | exact lit_minus | exact lit_wordstop | exact lit_lsq | exact lit_rpar | exact lit_q2q2 | exact lit_q1q1 | exact lit_zero | exact lit_blank)
local macro_rules | `(tactic| walk_at "eval Constant str") => `(tactic| (refine' r_const ?e ?_; (case e => walk_at "mine lit")))
local macro_rules | `(tactic| walk_at "subscriptTail Name Name str int") => `(tactic| (refine' r_item rfl ?h ?l ?_; (case h => with_reducible assumption); (case l => first | assumption | omega)))
local macro_rules | `(tactic| walk_at "subscriptTail Name Slice str ref") => `(tactic| ((with_reducible rename Fr _ _ _ _ => F'); (with_reducible rename News _ _ _ _ => N'); first
  | (refine' r_slice1 (s := ⟨_, _, _, _, _⟩) rfl rfl ?y ?l F' N' ?_; (case y => with_reducible assumption); (case l => first | assumption | omega); intro _ _ _ _ _)
  | (refine' r_slice2 (s := ⟨_, _, _, _, _⟩) rfl rfl ?y ?l F' N' ?_; (case y => with_reducible assumption); (case l => first | assumption | omega); intro _ _ _ _ _)))
local macro_rules | `(tactic| walk_at "compareOp Eq str str") => `(tactic| refine r_eq ?_)
local macro_rules | `(tactic| walk_at "compareOp NotEq str str") => `(tactic| refine r_ne ?_)
local macro_rules | `(tactic| walk_at "compareOp In str str") => `(tactic| refine r_in ?_)
local macro_rules | `(tactic| walk_at "compareOp NotIn str str") => `(tactic| refine r_notIn ?_)
local macro_rules | `(tactic| walk_at "call builtin:str.join") => `(tactic| (refine' r_join ?N ?m ?s ?b ?_; (case N => with_reducible assumption); (case m => k_mem); (case s => first | (with_reducible assumption) | exact sgs_pick (by assumption)); (case b => omega); intro _ _))
local macro_rules | `(tactic| walk_at "call builtin:len") => `(tactic| ((with_reducible show wpAny _ _ (call (Value.builtin _) [Value.ref _]) _ _ _); refine' r_len ?N ?m ?b ?_; (case N => with_reducible assumption); (case m => k_mem); (case b => first | omega | (simp only [Array.size_push]; omega))))
local macro_rules | `(tactic| walk_at "call builtin:str.upper") => `(tactic| (refine' r_upper ?e ?l ?_; (case e => with_reducible assumption); (case l => rw [T_len]; omega)))
local macro_rules | `(tactic| walk_at "ite") => `(tactic| first
  | (refine ite_t ?h ?_; (case h => with_reducible rfl))
  | (refine ite_f ?h ?_; (case h => with_reducible rfl))
  | (refine ite_t ?h ?_; (case h => with_reducible assumption))
  | (refine ite_f ?h ?_; (case h => with_reducible assumption))
  | (refine ite_t ?h ?_; (case h => exact decide_eq_true (by omega)))
  | (refine ite_f ?h ?_; (case h => exact decide_eq_false (by omega)))
  | (refine ite_p ?h ?_; (case h => omega))
  | (refine ite_n ?h ?_; (case h => omega))
  | (refine ite_t ?h ?_; (case h => simp only [*, decide_true, Bool.not_true, Bool.not_false, beq_self_eq_true]; done))
  | (refine ite_f ?h ?_; (case h => simp only [*, decide_true, Bool.not_true, Bool.not_false, beq_self_eq_true]; done))
  | (refine ite_t ?h ?_; (case h => decide))
  | (refine ite_f ?h ?_; (case h => decide))
  | (refine ite_both ?_ ?_ <;> intro hSplit))
local macro_rules | `(tactic| walk_at "eval Name") => `(tactic| ((with_reducible show wpAny _ _ (eval _ (envOf _ _ _ _ _)) _ _ _); name_kind "local"; (with_reducible rename Fr _ _ _ _ => F'); k_dflt (refine' ld F' ?k2 ?_; (case k2 => exact rfl); k_whole)))
local macro_rules | `(tactic| walk_at "eval Call") => `(tactic| k_dflt (refine Call_ ?_))
local macro_rules | `(tactic| walk_at "eval Call Attribute") => `(tactic| k_dflt (refine MethodCall_ ?_))
local macro_rules | `(tactic| walk_at "loadName") => `(tactic| k_dflt (refine ldn (by assumption) (by rfl) ?_))
local macro_rules | `(tactic| walk_at "subscriptTail Name Slice ref ref") => `(tactic| k_dflt (refine slice_list (by with_reducible assumption) (by with_reducible assumption) (by first | (with_reducible assumption) | exact News.isList (by with_reducible assumption) (by k_mem)) (by first | exact .none | exact .int _ _) (by first | exact .none | exact .int _ _) ?_; intro _ _ _))
local macro_rules | `(tactic| walk_at "exec For") => `(tactic| refine wpAny_For ?_)
local macro_rules | `(tactic| walk_at "pyIter str") => `(tactic| refine Stop.mk ?_)

section PartF1_
theorem anew_F1 : True := by
  w_top off
  exact trivial
structure QS where
  (z : Int) (tj : Tok) (vs : Array Value) (n : Nat) (la : Addr) (j : Nat) (acc : List Nat)
def tupObj (vs : List Value) : Obj := { cls := .type "tuple", data := .seq vs.toArray }
/-- a tuple, new -/
def TupIs (h : Heap) (a : Addr) (vs : List Value) (h' : Heap) : Prop := h.get? a = none ∧ h'.get? a = some (tupObj vs)

theorem quoted_spc (w : World) (l : List Nat) (tx : Tok) (i : Nat) (ti : Tok) (q : Nat) (tq : Tok) : Spc w 206 [.str (T l) tx, .int i ti, .str (T [q]) tq] 1 8 (fun _ => l.length < 2^18 ∧ i < l.length)
    (fun h v h' => ∃ a t1 t2, v = .ref a ∧ TupIs h a [.str (T (unq q (l.drop (i+1))).1) t1, .int ((i + 1 + (unq q (l.drop (i+1))).2 + 1 : Nat) : Int) t2] h') := by
  refine Spc.intro [("text", .str (T l) tx), ("at", .int i ti), ("mark", .str (T [q]) tq)] (by k_is) (by k_is) rfl (locs rfl) rfl rfl rfl (by decide) ?_
  intro p loose mean mg mb dp un gd outer A₀ base h₀ L s B F N X Tp hd hu hp
  obtain ⟨hx, h0⟩ := hp
  have hx' : (T l).length < 2^24 := by rw [T_len]; omega
  walk_at "mine go"
  unfold Stop
  rename News _ _ _ _ => N'; rename Fr _ _ _ _ => F'
  refine' While_of (σ := QS) (fun c => [("text", .str (T l) tx), ("at", .int c.z c.tj), ("mark", .str (T [q]) tq), ("signs", .ref c.la)]) (fun c => [(c.la, W.listOf c.vs c.n)]) (fun c => (l.length - c.j))
    (fun c => c.z = c.j ∧ Sgs c.vs c.acc ∧ c.acc.length ≤ c.j ∧ c.j ≤ l.length + 1 ∧ c.acc ++ (unq q (l.drop c.j)).1 = (unq q (l.drop (i + 1))).1 ∧ c.j + (unq q (l.drop c.j)).2 = i + 1 + (unq q (l.drop (i + 1))).2) ⟨_, _, #[], _, _, i+1, []⟩ F' N' ?h0 ?p0 ?turn
  case h0 => walk_at "mine pins"
  case p0 => exact ⟨by dsimp only; omega, Sgs.nil, Nat.zero_le _, by dsimp only; omega, rfl, rfl⟩
  case turn =>
    rintro ⟨z, tj, vs, n, la, j, acc⟩ u h₁ tk₁ ⟨hz, hs, hv, hj, e1, e2⟩ F₁ N₁
    dsimp only at hz hs hv hj e1 e2 F₁ N₁ ⊢
    subst hz
    clear F' N'
    have hv' : vs.size < 2^21 := by rw [hs.size]; omega
    rcases Nat.lt_or_ge j l.length with hjl | hjl
    · obtain ⟨c, hc⟩ : ∃ c, l[j]? = some c := ⟨l[j], List.getElem?_eq_getElem hjl⟩
      have hjl' : (j : Int) < ((T l).length : Int) := by rw [T_len]; omega
      rw [drop_at hc] at e1 e2
      cases hcq : (([c] : List Nat) != [q]) with
      | true =>
        have hcq' : ([c] == [q]) = false := by simpa [bne] using hcq
        have hne : c ≠ q := by simpa using hcq
        rw [unq_other hne] at e1 e2
        walk_at "mine go"
        dsimp only
        (rename Fr _ _ _ _ => F'); (rename News _ _ _ _ => N'); refine' TurnEnd.mk ⟨_, _, _, _, _, j+1, acc ++ [c]⟩ F' N' ?hm ?hp ?hμ
        case hm => walk_at "mine pins"
        case hp => exact ⟨by simp only [hcq']; simp, hs.push rfl _, by simp; omega, by dsimp only; omega, by simpa using e1, by dsimp only at e2 ⊢; omega⟩
        case hμ => dsimp only; omega
      | false =>
        have hcq' : ([c] == [q]) = true := by simpa [bne] using hcq
        have hne : c = q := by simpa using hcq
        subst hne
        cases hy : ((l.drop (j + 1)).take 1 == [c]) with
        | true =>
          have hy' : (l.drop (j + 1)).take 1 = [c] := by simpa using hy
          have hyy : ([c] == [c]) = true := by simp
          obtain ⟨r, hr⟩ : ∃ r, l.drop (j + 1) = c :: r := by
            cases hd : l.drop (j + 1) with
            | nil => rw [hd] at hy'; simp at hy'
            | cons d r => rw [hd] at hy'; simp at hy'; exact ⟨r, by rw [hy']⟩
          have hr2 : l.drop (j + 2) = r := by
            have := congrArg (List.drop 1) hr
            simpa [List.drop_drop, Nat.add_comm, Nat.add_left_comm, Nat.add_assoc] using this
          have hj2 : j + 2 ≤ l.length := by
            have := congrArg List.length hr
            simp at this; omega
          rw [hr, unq_double] at e1 e2
          rw [← hr2] at e1 e2
          walk_at "mine go"
          dsimp only
          (rename Fr _ _ _ _ => F'); (rename News _ _ _ _ => N'); refine' TurnEnd.mk ⟨_, _, _, _, _, j+2, acc ++ [c]⟩ F' N' ?hm ?hp ?hμ
          case hm => walk_at "mine pins"
          case hp => exact ⟨by simp only [hcq']; simp, hs.push rfl _, by simp; omega, by dsimp only; omega, by simpa using e1, by dsimp only at e2 ⊢; omega⟩
          case hμ => dsimp only; omega
        | false =>
          have hy' : (l.drop (j + 1)).take 1 ≠ [c] := by simpa using hy
          have hy2 : (l.drop (j + 1)).take 1 = (l.drop (j + 1)).take 1 := rfl
          rw [unq_stop hy'] at e1 e2
          walk_at "mine go"
          rename News _ _ _ _ => N'
          have e3 : ((i + 1 + (unq c (l.drop (i + 1))).2 + 1 : Nat) : Int) = (j : Int) + 1 := by dsimp only at e2; omega
          have e4 : (unq c (l.drop (i + 1))).1 = acc := by rw [← e1]; simp
          refine Back.mk (by with_reducible assumption) ?_
          rw [e3, e4]
          exact ⟨_, _, _, rfl, (N' _ (.head _)).2.2, (N' _ (.head _)).1⟩
    · have hjl' : ¬ (j : Int) < ((T l).length : Int) := by rw [T_len]; omega
      rw [List.drop_eq_nil_of_le hjl] at e1 e2
      walk_at "mine go"
      rename News _ _ _ _ => N'
      simp only [unq] at e1 e2
      have e3 : ((i + 1 + (unq q (l.drop (i + 1))).2 + 1 : Nat) : Int) = (j : Int) + 1 := by omega
      have e4 : (unq q (l.drop (i + 1))).1 = acc := by rw [← e1]; simp
      refine Back.mk (by with_reducible assumption) ?_
      rw [e3, e4]
      exact ⟨_, _, _, rfl, (N' _ (.head _)).2.2, (N' _ (.head _)).1⟩
end PartF1_
section PartF2_
local macro_rules | `(tactic| walk_at "no place 0") => `(tactic| skip)
theorem anew_F2 : True := by
  w_top off
  exact trivial
structure BS where
  (z : Int) (tj : Tok) (j : Nat)
theorem blanks_spc (w : World) (l : List Nat) (tx : Tok) (i : Nat) (z : Int) (hz : z = i) (ti : Tok) : Spc w 175 [.str (T l) tx, .int z ti] 1 8 (fun _ => l.length < 2^18 ∧ i < 2^20)
    (fun _ v _ => ∃ t, v = .int (blanks l i : Nat) t) := by
  refine Spc.intro [("text", .str (T l) tx), ("at", .int z ti)] (by k_is) (by k_is) rfl (locs rfl) rfl rfl rfl (by decide) ?_
  intro p loose mean mg mb dp un gd outer A₀ base h₀ L s B F N X Tp hd hu hp
  obtain ⟨hx, h0⟩ := hp
  have hx' : (T l).length < 2^24 := by rw [T_len]; omega
  walk_at "mine go"
  unfold Stop
  rename News _ _ _ _ => N'; rename Fr _ _ _ _ => F'
  refine' While_of (σ := BS) (fun c => [("text", .str (T l) tx), ("at", .int c.z c.tj)]) (fun c => []) (fun c => (l.length - c.j))
    (fun c => c.z = c.j ∧ c.j < 2^20 ∧ blanks l c.j = blanks l i) ⟨_, _, i⟩ F' N' ?h0 ?p0 ?turn
  case h0 => walk_at "mine pins"
  case p0 => exact ⟨hz, h0, rfl⟩
  case turn =>
    rintro ⟨z, tj, j⟩ u h₁ tk₁ ⟨hz, hj, e1⟩ F₁ N₁
    dsimp only at hz hj e1 F₁ N₁ ⊢
    subst hz
    clear F' N'
    rcases Nat.lt_or_ge j l.length with hjl | hjl
    · obtain ⟨c, hc⟩ : ∃ c, l[j]? = some c := ⟨l[j], List.getElem?_eq_getElem hjl⟩
      have hjl' : (j : Int) < ((T l).length : Int) := by rw [T_len]; omega
      cases hcb : decide (c ∈ [32, 9, 10, 13, 11, 12]) with
      | true =>
        walk_at "mine go"
        dsimp only
        (rename Fr _ _ _ _ => F'); (rename News _ _ _ _ => N'); refine' TurnEnd.mk ⟨_, _, j+1⟩ F' N' ?hm ?hp ?hμ
        case hm => walk_at "mine pins"
        case hp => exact ⟨by simp, by dsimp only; omega, (blanks_step hc hcb).trans e1⟩
        case hμ => dsimp only; omega
      | false =>
        walk_at "mine go"
        refine Back.mk (by with_reducible assumption) ⟨tj, ?_⟩
        rw [← e1, blanks_stop hc hcb]; rfl
    · have hjl' : ¬ (j : Int) < ((T l).length : Int) := by rw [T_len]; omega
      walk_at "mine go"
      refine Back.mk (by with_reducible assumption) ⟨tj, ?_⟩
      rw [← e1, blanks_end hjl]; rfl
end PartF2_
section PartF3_
theorem anew_F3 : True := by
  w_top off
  exact trivial
def elQ : List Nat → Option (List Nat × Nat)
  | [] => none
  | [c] => if c = 34 then some ([], 0) else none
  | c :: d :: r => if c = 34 then some ([], 0) else if c = 92 then (elQ r).map fun x => (d :: x.1, x.2 + 2) else (elQ (d :: r)).map fun x => (c :: x.1, x.2 + 1)
theorem elQ_quote (r : List Nat) : elQ (34 :: r) = some ([], 0) := by cases r <;> simp [elQ]
theorem elQ_esc (d : Nat) (r : List Nat) : elQ (92 :: d :: r) = (elQ r).map fun x => (d :: x.1, x.2 + 2) := by simp [elQ]
theorem elQ_esc_nil : elQ [92] = none := by simp [elQ]
theorem elQ_other {c : Nat} (r : List Nat) (h1 : c ≠ 34) (h2 : c ≠ 92) : elQ (c :: r) = (elQ r).map fun x => (c :: x.1, x.2 + 1) := by
  cases r <;> simp [elQ, h1, h2]
theorem newsTail {h₀ h : Heap} {L : Addr} {p : Addr × Obj} {news : List (Addr × Obj)} (N : News h₀ L h (p :: news)) : News h₀ L h news := fun q hq => N q (.tail _ hq)
structure ES where
  (z : Int) (tj : Tok) (e : Int) (te : Tok) (vs : Array Value) (n : Nat) (la : Addr) (j : Nat) (acc : List Nat)

theorem elemQ_spc (w : World) (l : List Nat) (tx : Tok) (i : Nat) (z : Int) (hz : z = i) (ti : Tok) (sg : List Nat) (n₀ : Nat) (hi : l[i]? = some 34) (hq : elQ (l.drop (i + 1)) = some (sg, n₀)) : Spc w 182 [.str (T l) tx, .int z ti] 1 8 (fun _ => l.length < 2^18)
    (fun h v h' => ∃ a t1 t2, v = .ref a ∧ TupIs h a [.str (T sg) t1, .int ((i + 1 + n₀ + 1 : Nat) : Int) t2] h') := by
  subst hz
  refine Spc.intro [("text", .str (T l) tx), ("at", .int i ti)] (by k_is) (by k_is) rfl (locs rfl) rfl rfl rfl (by decide) ?_
  intro p loose mean mg mb dp un gd outer A₀ base h₀ L s B F N X Tp hd hu hx
  have hx' : (T l).length < 2^24 := by rw [T_len]; omega
  have hil : i < l.length := (List.getElem?_eq_some_iff.mp hi).1
  have hs1 : (l.drop i).take 1 = [34] := by rw [drop_at hi]; rfl
  have hc1 : (([34] : List Nat) == [34]) = true := rfl
  walk_at "mine go"
  unfold Stop
  rename News _ _ _ _ => N'; rename Fr _ _ _ _ => F'
  replace N' := newsTail N'
  refine' While_of (σ := ES) (fun c => [("text", .str (T l) tx), ("at", .int c.z c.tj), ("end", .int c.e c.te), ("quoted", .bool ([34] == [34])), ("signs", .ref c.la)]) (fun c => [(c.la, W.listOf c.vs c.n)]) (fun c => (l.length - c.j))
    (fun c => c.z = c.j ∧ Sgs c.vs c.acc ∧ c.acc.length ≤ c.j ∧ c.e = c.acc.length ∧ ∃ s' n', elQ (l.drop c.j) = some (s', n') ∧ c.acc ++ s' = sg ∧ c.j + n' = i + 1 + n₀) ⟨_, _, _, _, #[], _, _, i+1, []⟩ F' N' ?h0 ?p0 ?turn
  case h0 => walk_at "mine pins"
  case p0 => exact ⟨by simp, Sgs.nil, Nat.zero_le _, by simp, sg, n₀, hq, rfl, rfl⟩
  case turn =>
    rintro ⟨z, tj, e, te, vs, n, la, j, acc⟩ u h₁ tk₁ ⟨hz, hs, hv, he, sg', n', e1, e2, e3⟩ F₁ N₁
    dsimp only at hz hs hv he e1 e2 e3 F₁ N₁ ⊢
    subst hz
    subst he
    clear F' N'
    rcases Nat.lt_or_ge j l.length with hjl | hjl
    · obtain ⟨c, hc⟩ : ∃ c, l[j]? = some c := ⟨l[j], List.getElem?_eq_getElem hjl⟩
      have hjl' : (j : Int) < ((T l).length : Int) := by rw [T_len]; omega
      have hv' : vs.size < 2^21 := by rw [hs.size]; omega
      rw [drop_at hc] at e1
      cases hq1 : decide (c ∈ [34]) with
      | true => 
        have hc34 : c = 34 := by simpa using hq1
        subst hc34
        rw [elQ_quote] at e1
        obtain ⟨rfl, rfl⟩ := Prod.mk.inj (Option.some.inj e1)
        rw [List.append_nil] at e2
        subst e2
        have hacc : acc.length < 2 ^ 19 := by omega
        walk_at "mine go"
        rename News _ _ _ _ => N'
        have e4 : ((i + 1 + n₀ + 1 : Nat) : Int) = (j : Int) + 1 := by omega
        refine Back.mk (by with_reducible assumption) ?_
        rw [e4]
        exact ⟨_, _, _, rfl, (N' _ (.head _)).2.2, (N' _ (.head _)).1⟩
      | false =>
        have hc34 : c ≠ 34 := by simpa using hq1
        cases hq2 : ([c] == [92]) with
        | true =>
          have hc92 : c = 92 := by simpa using hq2
          subst hc92
          obtain ⟨d, r, hr⟩ : ∃ d r, l.drop (j + 1) = d :: r := by
            cases hd : l.drop (j + 1) with
            | nil => rw [hd, elQ_esc_nil] at e1; cases e1
            | cons d r => exact ⟨d, r, rfl⟩
          have hsl : (l.drop (j + 1)).take 1 = [d] := by rw [hr]; rfl
          have hj2 : j + 1 < l.length := by
            have := congrArg List.length hr
            simp at this; omega
          have hr2 : l.drop (j + 2) = r := by
            have := congrArg (List.drop 1) hr
            simpa [List.drop_drop, Nat.add_comm, Nat.add_left_comm, Nat.add_assoc] using this
          rw [hr, elQ_esc, ← hr2] at e1
          obtain ⟨⟨s2, n2⟩, hr3, hr4⟩ := Option.map_eq_some_iff.mp e1
          obtain ⟨rfl, rfl⟩ := Prod.mk.inj hr4
          walk_at "mine go"
          dsimp only
          (rename Fr _ _ _ _ => F'); (rename News _ _ _ _ => N'); refine' TurnEnd.mk ⟨_, _, _, _, _, _, _, j+2, acc ++ [d]⟩ F' N' ?hm ?hp ?hμ
          case hm => walk_at "mine pins"
          case hp => exact ⟨by dsimp only; omega, hs.push rfl _, by simp; omega, by simp [hs.size], s2, n2, hr3, by simpa using e2, by dsimp only at e3 ⊢; omega⟩
          case hμ => dsimp only; omega
        | false =>
          have hc92 : c ≠ 92 := by simpa using hq2
          rw [elQ_other _ hc34 hc92] at e1
          obtain ⟨⟨s2, n2⟩, hr3, hr4⟩ := Option.map_eq_some_iff.mp e1
          obtain ⟨rfl, rfl⟩ := Prod.mk.inj hr4
          walk_at "mine go"
          dsimp only
          (rename Fr _ _ _ _ => F'); (rename News _ _ _ _ => N'); refine' TurnEnd.mk ⟨_, _, _, _, _, _, _, j+1, acc ++ [c]⟩ F' N' ?hm ?hp ?hμ
          case hm => walk_at "mine pins"
          case hp => exact ⟨by dsimp only; omega, hs.push rfl _, by simp; omega, by simp [hs.size], s2, n2, hr3, by simpa using e2, by dsimp only at e3 ⊢; omega⟩
          case hμ => dsimp only; omega
    · exfalso
      rw [List.drop_eq_nil_of_le hjl] at e1
      cases e1
end PartF3_
section PartF4_
local macro_rules | `(tactic| walk_at "no place 0") => `(tactic| skip)
theorem anew_F4 : True := by
  w_top off
  exact trivial
def isStopU (c : Nat) : Bool := decide (c ∈ [123, 125, 34, 44])
theorem elemU_spc (w : World) (l : List Nat) (tx : Tok) (i : Nat) (z : Int) (hz : z = i) (ti : Tok) (sg rest up : List Nat) (hl : l.drop i = sg ++ rest) (hne : sg ≠ [])
    (hsg : ∀ c ∈ sg, isStopU c = false ∧ c ≠ 92 ∧ isB c = false) (hrest : ∀ c r, rest = c :: r → isStopU c = true) (hup : Txt.upper (T sg) = T up) (hupn : up ≠ []) :
    Spc w 182 [.str (T l) tx, .int z ti] 1 8 (fun _ => l.length < 2^18)
    (fun h v h' => ∃ a t1 t2, v = .ref a ∧ TupIs h a [if up = [78, 85, 76, 76] then .none else .str (T sg) t1, .int ((i + sg.length : Nat) : Int) t2] h') := by
  subst hz
  refine Spc.intro [("text", .str (T l) tx), ("at", .int i ti)] (by k_is) (by k_is) rfl (locs rfl) rfl rfl rfl (by decide) ?_
  intro p loose mean mg mb dp un gd outer A₀ base h₀ L s B F N X Tp hd hu hx
  have hx' : (T l).length < 2^24 := by rw [T_len]; omega
  obtain ⟨c₀, r₀, hsg0⟩ : ∃ c r, sg = c :: r := by cases sg with | nil => exact absurd rfl hne | cons c r => exact ⟨c, r, rfl⟩
  have hs1 : (l.drop i).take 1 = [c₀] := by rw [hl, hsg0]; rfl
  have hc1 : (([c₀] : List Nat) == [34]) = false := by
    have := (hsg c₀ (by rw [hsg0]; exact .head _)).1
    simp [isStopU] at this
    simp; omega
  walk_at "mine go"
  unfold Stop
  rename News _ _ _ _ => N'; rename Fr _ _ _ _ => F'
  replace N' := newsTail N'
  refine' While_of (σ := ES) (fun c => [("text", .str (T l) tx), ("at", .int c.z c.tj), ("end", .int c.e c.te), ("quoted", .bool ([c₀] == [34])), ("signs", .ref c.la)]) (fun c => [(c.la, W.listOf c.vs c.n)]) (fun c => (l.length - c.j))
    (fun c => c.z = c.j ∧ Sgs c.vs c.acc ∧ c.j = i + c.acc.length ∧ c.e = c.acc.length ∧ ∃ s', l.drop c.j = s' ++ rest ∧ c.acc ++ s' = sg) ⟨_, _, _, _, #[], _, _, i, []⟩ F' N' ?h0 ?p0 ?turn
  case h0 => walk_at "mine pins"
  case p0 => exact ⟨by simp [hc1], Sgs.nil, rfl, by simp, sg, hl, rfl⟩
  case turn =>
    rintro ⟨z, tj, e, te, vs, n, la, j, acc⟩ u h₁ tk₁ ⟨hz, hs, hv, he, sg', e1, e2⟩ F₁ N₁
    dsimp only at hz hs hv he e1 e2 F₁ N₁ ⊢
    subst hz
    subst he
    clear F' N'
    cases sg' with
    | nil =>
      rw [List.append_nil] at e2
      subst e2
      have e4 : (i + acc.length : Int) = j := by omega
      have hq4 : (([] : List Nat) == acc) = false := by
        cases acc with
        | nil => exact absurd rfl hne
        | cons _ _ => rfl
      have hq5 : (acc == ([] : List Nat)) = false := by
        cases acc with
        | nil => exact absurd rfl hne
        | cons _ _ => rfl
      have hlen : acc.length ≤ l.length := by
        have := congrArg List.length hl
        simp at this; omega
      have hacc : acc.length < 2 ^ 19 := by omega
      have e5 : ((i + acc.length : Nat) : Int) = (j : Int) := by omega
      have fin : ∀ (b : Bool), ([T [], T [78, 85, 76, 76]].any fun x => x == T up) = b → (decide (up = [78, 85, 76, 76])) = b := by
        intro b hb
        subst hb
        simp only [List.any_cons, List.any_nil, Bool.or_false, T_beq]
        rw [Bool.eq_iff_iff]
        simp only [decide_eq_true_eq, Bool.or_eq_true, beq_iff_eq]
        constructor
        · intro h; exact .inr h.symm
        · rintro (h | h)
          · exact absurd h.symm hupn
          · exact h.symm
      rcases Nat.lt_or_ge j l.length with hjl | hjl
      · obtain ⟨c, hc⟩ : ∃ c, l[j]? = some c := ⟨l[j], List.getElem?_eq_getElem hjl⟩
        have hjl' : (j : Int) < ((T l).length : Int) := by rw [T_len]; omega
        rw [drop_at hc] at e1
        have hq1 : (!decide (c ∈ [123, 125, 34, 44])) = false := by
          have := hrest c (l.drop (j + 1)) (by simpa using e1.symm)
          unfold isStopU at this
          rw [this]; rfl
        cases hb : ([T [], T [78, 85, 76, 76]].any fun x => x == T up) with
        | true =>
          have hN := of_decide_eq_true (fin _ hb)
          walk_at "mine go"
          rename News _ _ _ _ => N'
          refine Back.mk (by with_reducible assumption) ?_
          simp only [if_pos hN, e5]
          exact ⟨_, 0, _, rfl, (N' _ (.head _)).2.2, (N' _ (.head _)).1⟩
        | false =>
          have hN := of_decide_eq_false (fin _ hb)
          walk_at "mine go"
          rename News _ _ _ _ => N'
          refine Back.mk (by with_reducible assumption) ?_
          simp only [if_neg hN, e5]
          exact ⟨_, _, _, rfl, (N' _ (.head _)).2.2, by simpa [hc1, tupObj] using (N' _ (.head _)).1⟩
      · have hjl' : ¬ (j : Int) < ((T l).length : Int) := by rw [T_len]; omega
        cases hb : ([T [], T [78, 85, 76, 76]].any fun x => x == T up) with
        | true =>
          have hN := of_decide_eq_true (fin _ hb)
          walk_at "mine go"
          rename News _ _ _ _ => N'
          refine Back.mk (by with_reducible assumption) ?_
          simp only [if_pos hN, e5]
          exact ⟨_, 0, _, rfl, (N' _ (.head _)).2.2, (N' _ (.head _)).1⟩
        | false =>
          have hN := of_decide_eq_false (fin _ hb)
          walk_at "mine go"
          rename News _ _ _ _ => N'
          refine Back.mk (by with_reducible assumption) ?_
          simp only [if_neg hN, e5]
          exact ⟨_, _, _, rfl, (N' _ (.head _)).2.2, by simpa [hc1, tupObj] using (N' _ (.head _)).1⟩
    | cons c r =>
      have hmem : c ∈ sg := by rw [← e2]; simp
      obtain ⟨b1, b2, b3⟩ := hsg c hmem
      have hc : l[j]? = some c := by
        have := congrArg (·[0]?) e1
        simpa using this
      have hjl : j < l.length := (List.getElem?_eq_some_iff.mp hc).1
      have hjl' : (j : Int) < ((T l).length : Int) := by rw [T_len]; omega
      have hv' : vs.size < 2^21 := by rw [hs.size]; omega
      have hq1 : (!decide (c ∈ [123, 125, 34, 44])) = true := by unfold isStopU at b1; rw [b1]; rfl
      have hq2 : ([c] == [92]) = false := by simpa using b2
      have hq3 : (!decide (c ∈ [32, 9, 10, 13, 11, 12])) = true := by unfold isB at b3; rw [b3]; rfl
      rw [drop_at hc] at e1
      walk_at "mine go"
      dsimp only
      (rename Fr _ _ _ _ => F'); (rename News _ _ _ _ => N'); refine' TurnEnd.mk ⟨_, _, _, _, _, _, _, j+1, acc ++ [c]⟩ F' N' ?hm ?hp ?hμ
      case hm => walk_at "mine pins"
      case hp => exact ⟨by dsimp only; omega, hs.push rfl _, by simp; omega, by simp [hs.size], r, by simpa using e1, by simpa using e2⟩
      case hμ => dsimp only; omega
end PartF4_
section Pre2_
local macro_rules | `(tactic| walk_at "mine jn") => `(tactic| first | exact jn0 | (apply jn1; walk_at "mine jn"))
local macro_rules | `(tactic| walk_at "mine len") => `(tactic| (simp only [List.length_append, List.length_cons, List.length_nil]; omega))
local macro_rules | `(tactic| walk_at "joinParts") => `(tactic| first
  | ((with_reducible refine joinParts_consE ?_); (with_reducible refine joinParts_cons ?_))
  | ((with_reducible refine joinParts_nilE ?_); (refine' r_jnil ?e ?l ?_; (case e => walk_at "mine jn"); (case l => walk_at "mine len")))
  | ((with_reducible show wpAny _ _ (joinParts _ (_ :: _)) _ _ _); (with_reducible refine joinParts_cons ?_))
  | ((with_reducible show wpAny _ _ (joinParts _ []) _ _ _); (refine' r_jnil ?e ?l ?_; (case e => walk_at "mine jn"); (case l => walk_at "mine len"))))
local macro_rules | `(tactic| walk_at "And") => `(tactic| (refine' r_jand ?e ?l ?_; (case e => walk_at "mine jn"); (case l => walk_at "mine len")))
local macro_rules | `(tactic| walk_at "ite") => `(tactic| first
  | (with_reducible refine ite_T ?_)
  | (with_reducible refine ite_F ?_)
  | (refine ite_t ?h ?_; (case h => with_reducible rfl))
  | (refine ite_f ?h ?_; (case h => with_reducible rfl))
  | (refine ite_t ?h ?_; (case h => with_reducible assumption))
  | (refine ite_f ?h ?_; (case h => with_reducible assumption))
  | (refine ite_t ?h ?_; (case h => exact decide_eq_true (by omega)))
  | (refine ite_f ?h ?_; (case h => exact decide_eq_false (by omega)))
  | (refine ite_p ?h ?_; (case h => omega))
  | (refine ite_n ?h ?_; (case h => omega))
  | (refine ite_t ?h ?_; (case h => simp only [*, decide_true, Bool.not_true, Bool.not_false, beq_self_eq_true]; done))
  | (refine ite_f ?h ?_; (case h => simp only [*, decide_true, Bool.not_true, Bool.not_false, beq_self_eq_true]; done))
  | (refine ite_t ?h ?_; (case h => decide))
  | (refine ite_f ?h ?_; (case h => decide))
  | (refine ite_both ?_ ?_ <;> intro hSplit))

section PartF5_
theorem anew_F5 : True := by
  w_top off
  exact trivial
def esc1 (c : Nat) : List Nat := if c = 92 then [92, c] else if c = 34 then [92, c] else [c]
def esc (l : List Nat) : List Nat := l.flatMap esc1
theorem esc_take {l : List Nat} {i c : Nat} (h : l[i]? = some c) : esc (l.take (i + 1)) = esc (l.take i) ++ esc1 c := by
  unfold esc
  rw [List.take_succ, h, List.flatMap_append]
  simp
theorem esc_len (l : List Nat) : (esc l).length ≤ 2 * l.length := by
  unfold esc
  induction l with
  | nil => simp
  | cons c r ih =>
    rw [List.flatMap_cons, List.length_append, List.length_cons]
    have : (esc1 c).length ≤ 2 := by unfold esc1; split <;> (try split) <;> simp
    omega
def spB (c : Nat) : Bool := Txt.isspace (T [c])
def needQ (e : List Nat) : Bool := e == [] || e == [78,85,76,76] || e.any spB || [123,125,44,92].any (fun c => decide (c ∈ e))
def aseOut (l : List Nat) : List Nat := if needQ (esc l) then [34] ++ esc l ++ [34] else esc l
theorem out_q {l e : List Nat} (hE : esc l = e) (h : needQ e = true) : aseOut l = [34] ++ e ++ [34] := by unfold aseOut; rw [hE, if_pos h]
theorem out_n {l e : List Nat} (hE : esc l = e) (h : needQ e = false) : aseOut l = e := by unfold aseOut; rw [hE, h]; rfl
structure AS where
  (vs : Array Value) (n : Nat) (acc : List Nat)
theorem ase_spc (w : World) (l : List Nat) (tx : Tok) : SpcG w 95 [.str (T l) tx] 2 40 (fun _ => l.length < 2^18) (fun v => ∃ t, v = .str (T (aseOut l)) t) := by
  refine SpcG.introC [("v", .str (T l) tx)] (by k_is) (by k_is) rfl rfl (by decide +kernel) rfl rfl rfl ?_
  intro p loose mean mg mb dp un gd outer A₀ base h₀ L s ps cells B F N Y hL90 ht X Tp C h90 hG hd hu hx
  have hx' : (T l).length < 2^24 := by rw [T_len]; omega
  obtain ⟨oC, hE, dC⟩ := CellsAre.one Y
  subst hE
  clear Y
  simp only [List.cons_append, List.nil_append] at N
  walk_at "mine go"
  unfold Stop
  rename News _ _ _ _ => N'; rename Fr _ _ _ _ => F'
  rename_i la _ lla _
  refine for_str (σ := AS) (fun c => [("v", .str (T l) tx), ("cs", .ref la)]) (fun c => [(la, W.listOf c.vs c.n), (L + 1, oC), (90, tabObj ps)]) (fun i c => Sgs c.vs c.acc ∧ c.acc = esc (l.take i)) ⟨#[], 0, []⟩ rfl rfl rfl rfl F' N' ?h0 ⟨Sgs.nil, rfl⟩ ?hadr ?turn ?done
  case h0 => walk_at "mine pins"
  case hadr => rintro i c - p hp; simp only [List.mem_cons, List.not_mem_nil, or_false] at hp ⊢; rcases hp with rfl | rfl | rfl <;> simp
  case turn =>
    rintro i ⟨vs, n, acc⟩ u h₁ tk₁ sg tg I oI hsg hlt ⟨hs, ha⟩ F₁ N₁
    dsimp only at hs ha F₁ N₁ ⊢
    k_lt hlt
    clear F' N'
    have hil : i < l.length := (List.getElem?_eq_some_iff.mp hsg).1
    have hlen : acc.length ≤ 2 * l.length := by
      rw [ha]; refine Nat.le_trans (esc_len _) ?_
      have := List.length_take_le i l
      omega
    have hv' : vs.size < 2^21 := by rw [hs.size]; omega
    have hstep := esc_take hsg
    cases h1 : ([sg] == [92]) with
    | true =>
      have e92 : sg = 92 := by simpa using h1
      subst e92
      walk_at "mine go"
      dsimp only
      (rename Fr _ _ _ _ => F'); (rename News _ _ _ _ => N'); refine' ForEnd.mk ⟨_, _, acc ++ [92] ++ [92]⟩ F' N' ?hm ⟨(hs.push rfl _).push rfl _, by rw [hstep, ha]; simp [esc1]⟩
      case hm => walk_at "mine pins"
    | false =>
      cases h2 : ([sg] == [34]) with
      | true =>
        walk_at "mine go"
        dsimp only
        (rename Fr _ _ _ _ => F'); (rename News _ _ _ _ => N'); refine' ForEnd.mk ⟨_, _, acc ++ [92] ++ [sg]⟩ F' N' ?hm ⟨(hs.push rfl _).push rfl _, by rw [hstep, ha]; simp at h1 h2; simp [esc1, h1, h2]⟩
        case hm => walk_at "mine pins"
      | false =>
        walk_at "mine go"
        dsimp only
        (rename Fr _ _ _ _ => F'); (rename News _ _ _ _ => N'); refine' ForEnd.mk ⟨_, _, acc ++ [sg]⟩ F' N' ?hm ⟨hs.push rfl _, by rw [hstep, ha]; simp at h1 h2; simp [esc1, h1, h2]⟩
        case hm => walk_at "mine pins"
  case done =>
    rintro ⟨vs, n, acc⟩ u h₁ tk₁ ⟨hs, ha⟩ F₁ N₁
    dsimp only at hs ha F₁ N₁ ⊢
    rw [List.take_length] at ha
    subst ha
    have hacc : (esc l).length < 2^19 := by have := esc_len l; omega
    generalize hE : esc l = e at *
    have hbb : (T e).length < 2^24 := by rw [T_len]; omega
    cases hz : (e == []) with
    | true =>
      have hz1 : (((T e).length : Int) == 0) = true := by
        have e0 : e = [] := by simpa using hz
        subst e0; rfl
      walk_at "mine go"
      rename Fr _ _ _ _ => FF; rename News _ _ _ _ => NN; simp only [List.cons_append, List.nil_append] at NN
      dsimp only
      exact BackG.mk FF NN (.tail _ (.tail _ (.head _))) ht hG rfl ⟨_, by rw [out_q hE (by simp [needQ, hz])]; rfl⟩
    | false =>
      have hz1 : (((T e).length : Int) == 0) = false := by
        rw [T_len]
        cases e with
        | nil => exact absurd hz (by decide)
        | cons a r => simp; omega
      cases hn : (e == [78,85,76,76]) with
      | true =>
        walk_at "mine go"
        rename Fr _ _ _ _ => FF; rename News _ _ _ _ => NN; simp only [List.cons_append, List.nil_append] at NN
        dsimp only
        exact BackG.mk FF NN (.tail _ (.tail _ (.head _))) ht hG rfl ⟨_, by rw [out_q hE (by simp [needQ, hn])]; rfl⟩
      | false =>
        walk_at "mine go"
        rename Fr _ _ _ _ => FF; rename News _ _ _ _ => NN; simp only [List.cons_append, List.nil_append] at NN; rename Obj => oo; rename oo.data = _ => hoo
        have N2 := news_mem (b := [(90, tabObj ps), (la, W.listOf vs n), (L + 1, oo)]) NN (by simp)
        refine gexp_G FF Tp C h90 rfl rfl rfl ?room rfl rfl ?cell rfl rfl rfl ?fold ?_
        case room => show dp < _; omega
        case cell => decide
        case fold => intro _; exact rfl
        walk_at "mine go"
        unfold Stop
        refine src_str (s := ⟨_, _, _, _, _⟩) FF N2 ?hne ht hG (fun i v => v = .bool (spB (e.getD i 0))) ?hel ?hQ
        case hne =>
          intro q hq
          rcases List.mem_cons.mp hq with rfl | hq
          · exact Nat.ne_of_gt lla.2
          · exact List.mem_singleton.mp hq ▸ Nat.ne_of_gt (Nat.lt_succ_of_lt hL90)
        case hel =>
          intro C₁ code A' E' i sg tg t m₂ hA hsg hn₂ hm₂ _
          have esg : e.getD i 0 = sg := by rw [List.getD_eq_getElem?_getD, hsg, Option.getD_some]
          refine MethodCall_ (wpAny_Name (wpAny_loadName_local rfl rfl hn₂ hm₂ ?_) rfl)
          walk_at "mine go"
          all_goals first | exact ⟨_, _, rfl, fun _ _ e => e⟩ | (rw [esg]; rfl)
        case hQ =>
          intro ag s₅ ps₅ F₅ N₅ ht₅ G₅ o₅ hL₅ hlo₅ X₅
          walk_at "mine go"
          refine any_G F₅ N₅ G₅ X₅ hL₅ hlo₅ _ (truthB _) fun s₆ F₆ N₆ G₆ o₆ => ?_
          rw [range_any]
          clear X₅ hlo₅ F₅ N₅ N2 NN FF
          cases hsp : e.any spB with
          | true =>
            walk_at "mine go"
            rename Fr _ _ _ _ => FF; rename News _ _ _ _ => NN; simp only [List.cons_append, List.nil_append] at NN
            dsimp only
            exact BackG.mk FF NN (.head _) ht₅ G₆ (o₆.trans o₅) ⟨_, by rw [out_q hE (by simp [needQ, hsp])]; rfl⟩
          | false =>
            walk_at "mine go"
            refine gexp_G F₆ Tp C h90 rfl rfl rfl ?room rfl rfl ?cell rfl rfl rfl ?fold ?_
            case room => show dp < _; omega
            case cell => decide
            case fold => intro _; exact rfl
            walk_at "mine go"
            rename Fr _ _ _ _ => F₆; rename News _ _ _ _ => N₆; rename 90 < _ ∧ la < _ ∧ L + 1 < _ => l6
            have N7 := news_mem (b := [(90, tabObj ps₅), (la, W.listOf vs n), (L + 1, oo)]) N₆ (by simp)
            refine src_tup (s := ⟨_, _, _, _, _⟩) F₆ N7 ⟨_, (N₆ _ (.head _)).1, rfl, _, rfl⟩ ?hne ht₅ G₆ (fun i v => v = .bool (decide ([123,125,44,92].getD i 0 ∈ e))) ?hel ?hQ
            case hne =>
              intro q hq
              rcases List.mem_cons.mp hq with rfl | hq
              · exact Nat.ne_of_gt lla.2
              · exact List.mem_singleton.mp hq ▸ Nat.ne_of_gt (Nat.lt_succ_of_lt hL90)
            case hel =>
              intro C₁ code A' E' i v t m₂ hA hv hn₂ hm₂ hnw
              obtain ⟨c, tc, rfl, hc⟩ : ∃ c tc, v = .str (T [c]) tc ∧ [123,125,44,92].getD i 0 = c := by
                rcases i with _ | _ | _ | _ | i
                · exact ⟨_, _, (Option.some.inj hv).symm, rfl⟩
                · exact ⟨_, _, (Option.some.inj hv).symm, rfl⟩
                · exact ⟨_, _, (Option.some.inj hv).symm, rfl⟩
                · exact ⟨_, _, (Option.some.inj hv).symm, rfl⟩
                · cases hv
              rw [hc]
              walk1
              refine wpAny_Name (wpAny_loadName_local rfl rfl hn₂ hm₂ ?_) rfl
              refine wpAny_Name (wpAny_loadName_free rfl rfl rfl ⟨_, hnw _ (.tail _ (.head _)), hoo⟩ ?_ rfl) rfl
              walk_at "mine go"
              all_goals first | exact ⟨_, _, rfl, fun _ _ e => e⟩ | rfl
            case hQ =>
              intro ag s₇ ps₇ F₇ N₇ ht₇ G₇ o₇ hL₇ hlo₇ X₇
              walk_at "mine go"
              refine any_G F₇ N₇ G₇ X₇ hL₇ hlo₇ _ (truthB _) fun s₈ F₈ N₈ G₈ o₈ => ?_
              have e8 := range_any [123,125,44,92] 0 (fun c => decide (c ∈ e))
              dsimp only [List.length] at e8 ⊢
              rw [e8]
              clear X₇ hlo₇ F₇ N₇ N7 F₆ N₆
              cases ho4 : [123,125,44,92].any (fun c => decide (c ∈ e)) with
              | true =>
                walk_at "mine go"
                rename Fr _ _ _ _ => FF; rename News _ _ _ _ => NN; simp only [List.cons_append, List.nil_append] at NN
                dsimp only
                exact BackG.mk FF NN (.head _) ht₇ G₈ (o₈.trans (o₇.trans (o₆.trans o₅))) ⟨_, by rw [out_q hE (by simp only [needQ, ho4, Bool.or_true])]; rfl⟩
              | false =>
                walk_at "mine go"
                dsimp only
                exact BackG.mk F₈ N₈ (.head _) ht₇ G₈ (o₈.trans (o₇.trans (o₆.trans o₅))) ⟨_, by rw [out_n hE (by simp only [needQ, hz, hn, hsp, ho4, Bool.or_false])]; rfl⟩
end PartF5_
section Pre3_
local macro_rules | `(tactic| walk_at "call type:str") => `(tactic| ((with_reducible show wpAny _ _ (call (Value.type "str") [Value.int _ _]) _ _ _); refine' r_strint ?a ?b ?_; (case a => omega); (case b => omega)))
local macro_rules | `(tactic| walk_at "mine g") => `(tactic| ((repeat' apply And.intro) <;> first | with_reducible assumption | omega))
local macro_rules | `(tactic| walk_at "call builtin:str.join") => `(tactic| first
  | (refine' r_join ?N ?m ?s ?b ?_; (case N => with_reducible assumption); (case m => k_mem); (case s => first | (with_reducible assumption) | exact sgs_pick (by assumption)); (case b => omega); intro _ _)
  | (refine' r_joinL ?N ?m ?s ?p ?b ?_; (case N => with_reducible assumption); (case m => k_mem); (case s => first | (with_reducible assumption) | assumption); (case p => decide); (case b => assumption); intro _ _))
local macro_rules | `(tactic| walk_at "call builtin:str.replace") => `(tactic| (refine' r_replace ?u ?v ?n ?l ?_; (case u => ((show @Ne Nat _ _); omega)); (case v => ((show @Ne Nat _ _); omega)); (case n => ((show @Ne Nat _ _); omega)); (case l => first | omega | (rw [T_len]; omega)); intro _ _))
local macro_rules | `(tactic| walk_at "mine back") => `(tactic| ((try dsimp only); exact Back.mk (by with_reducible assumption) ⟨_, rfl⟩))
local macro_rules | `(tactic| walk_at "mine backG") => `(tactic| ((try dsimp only); exact BackG.mk (by with_reducible assumption) (by with_reducible assumption) (by k_mem) (by with_reducible assumption) (by with_reducible assumption) (by first | rfl | with_reducible assumption) ⟨_, rfl⟩))
local macro_rules | `(tactic| walk_at "call builtin:isinstance") => `(tactic| ((with_reducible show wpAny _ _ (call _ [Value.str _ _, Value.type _]) _ _ _); with_reducible first | refine IsiPair.str_str ?_ | refine IsiPair.str_bool ?_ | refine IsiPair.str_int ?_ | refine IsiPair.str_list ?_))

section PartK1_
local macro_rules | `(tactic| walk_at "call ref") => `(tactic| refine Stop.mk ?_)
theorem anew_K1 : True := by
  w_top off
  exact trivial
theorem kind_spc (w : World) (z : Int) (ti : Tok) : Spc w 46 [.int z ti] 1 8 (fun _ => True) (fun _ v _ => ∃ t, v = .str (Str.ofString "int") t) := by
  refine Spc.intro [("value", .int z ti)] (by k_is) (by k_is) rfl (locs rfl) rfl rfl rfl (by decide) ?_
  intro p loose mean mg mb dp un gd outer A₀ base h₀ L s B F N X Tp hd hu hx
  walk_at "mine go"
  exact Back.mk (by with_reducible assumption) ⟨_, rfl⟩
theorem int_out_spc (w : World) (z : Int) (ti : Tok) (h1 : -(10 ^ 20) < z) (h2 : z < 10 ^ 20) : Spc w 67 [.int z ti] 1 8 (fun _ => True) (fun _ v _ => ∃ t, v = .str (T (num z)) t) := by
  refine Spc.intro [("v", .int z ti)] (by k_is) (by k_is) rfl (locs rfl) rfl rfl rfl (by decide) ?_
  intro p loose mean mg mb dp un gd outer A₀ base h₀ L s B F N X Tp hd hu hx
  walk_at "mine go"
  exact Back.mk (by with_reducible assumption) ⟨_, rfl⟩
theorem mp_spc (w : World) (z : Int) (ti : Tok) (h1 : -(10 ^ 20) < z) (h2 : z < 10 ^ 20) : Spc w 113 [.ref 106, .int z ti] 2 20 (fun _ => True) (fun _ v _ => ∃ t, v = .str (T (num z)) t) := by
  refine Spc.intro [("py_types", .ref 106), ("value", .int z ti)] (by k_is) (by k_is) rfl (locs rfl) rfl rfl rfl (by decide) ?_
  intro p loose mean mg mb dp un gd outer A₀ base h₀ L s B F N X Tp hd hu hx
  walk_at "mine go"
  unfold Stop
  refine Spc.use1 (kind_spc w z ti) (by walk_at "mine g") (by walk_at "mine g") trivial ?_
  rintro v h' tk' F' N' ⟨t, rfl⟩
  walk_at "mine go"
  unfold Stop
  refine Spc.use1 (int_out_spc w z ti h1 h2) (by walk_at "mine g") (by walk_at "mine g") trivial ?_
  rintro v h' tk' F' N' ⟨t, rfl⟩
  walk_at "mine go"
  exact Back.mk (by with_reducible assumption) ⟨_, rfl⟩
end PartK1_
section PartK2_
local macro_rules | `(tactic| walk_at "call ref") => `(tactic| refine Stop.mk ?_)
local macro_rules | `(tactic| walk_at "no place 0") => `(tactic| skip)
theorem anew_K2 : True := by
  w_top off
  exact trivial
/-- an item of a list -/
inductive It where
  | non
  | int (z : Int)
  | txt (l : List Nat)
def It.Is (v : Value) : It → Prop
  | .non => v = .none
  | .int z => ∃ t, v = .int z t
  | .txt l => ∃ t, v = .str (T l) t
def It.out : It → List Nat
  | .non => [78, 85, 76, 76]
  | .int z => num z
  | .txt l => aseOut l
def It.Ok : It → Prop
  | .non => True
  | .int z => -(10 ^ 20) < z ∧ z < 10 ^ 20
  | .txt l => l.length ≤ 8
theorem aout_item (w : World) (v : Value) (x : It) (hv : x.Is v) (hok : x.Ok) : SpcG w 100 [v] 3 60 (fun _ => True) (fun r => ∃ t, r = .str (T x.out) t) := by
  refine SpcG.intro [("val", v)] (by k_is) (by k_is) rfl (locs rfl) rfl rfl rfl (by decide) ?_
  intro p loose mean mg mb dp un gd outer A₀ base h₀ L s ps B F N ht X Tp C h90 hG hd hu hx
  cases x with
  | non =>
    cases hv
    walk_at "mine go"
    rename Fr _ _ _ _ => F; rename News _ _ _ _ => N
    exact BackG.mk F N (by k_mem) ht hG rfl ⟨_, rfl⟩
  | int z =>
    obtain ⟨ti, rfl⟩ := hv
    obtain ⟨h1, h2⟩ := hok
    walk_at "mine go"
    unfold Stop
    refine Spc.use1 (mp_spc w z ti h1 h2) (by walk_at "mine g") (by walk_at "mine g") trivial ?_
    rintro v h' tk' F' N' ⟨t, rfl⟩
    walk_at "mine go"
    rename Fr _ _ _ _ => F; rename News _ _ _ _ => N
    exact BackG.mk F N (by k_mem) ht hG rfl ⟨_, rfl⟩
  | txt l =>
    obtain ⟨ti, rfl⟩ := hv
    have hok : l.length ≤ 8 := hok
    walk_at "mine go"
    unfold Stop
    refine SpcG.use1 (ase_spc w l ti) (ps := ps) (news := []) (by walk_at "mine g") (news_mem (by with_reducible assumption) (by simp)) (by simp) (by walk_at "mine g") (by show l.length < 2^18; omega) ?_
    rintro v s' ps' F' N' ht' hG' ho' ⟨t, rfl⟩
    walk_at "mine go"
    exact BackG.mk F' N' (.head _) ht' hG' ho' ⟨_, rfl⟩
end PartK2_
section PartK3_
local macro_rules | `(tactic| walk_at "call ref") => `(tactic| refine Stop.mk ?_)
local macro_rules | `(tactic| walk_at "no place 0") => `(tactic| skip)
theorem anew_K3 : True := by
  w_top off
  exact trivial
local macro_rules | `(tactic| walk_at "exec Assign cons ListComp") => `(tactic| refine Stop.mk ?_)
/-- items of a list, as values -/
def Its (vs : List Value) (xs : List It) : Prop := vs.length = xs.length ∧ ∀ (i : Nat) (v : Value) (x : It), vs[i]? = some v → xs[i]? = some x → x.Is v
structure AO where
  (ps : Array Value) (ys : List Value)
def aoOut (xs : List It) : List Nat := [123] ++ inter [44] (xs.map It.out) ++ [125]
theorem aseOut_len (l : List Nat) : (aseOut l).length ≤ 2 * l.length + 2 := by
  have := esc_len l
  unfold aseOut
  split
  · rw [List.length_append, List.length_append]; simp; omega
  · omega
theorem It.out_len {x : It} (h : x.Ok) : x.out.length ≤ 21 := by
  cases x with
  | non => show 4 ≤ 21; omega
  | int z => exact num_len h.1 h.2
  | txt l =>
    have h : l.length ≤ 8 := h
    have := aseOut_len l
    show (aseOut l).length ≤ 21
    omega
theorem outs_sum {xs : List It} (hok : ∀ x ∈ xs, x.Ok) (hlen : xs.length ≤ 4) : ((xs.map It.out).map fun l => l.length + 1).sum ≤ 1048576 := by
  have h := sum_le (k := 21) (ls := xs.map It.out) (by
    intro l hl
    obtain ⟨x, hx, rfl⟩ := List.mem_map.mp hl
    exact It.out_len (hok x hx))
  rw [List.length_map] at h
  omega
theorem outs_len {xs : List It} (hok : ∀ x ∈ xs, x.Ok) (hlen : xs.length ≤ 4) : (inter [44] (xs.map It.out)).length ≤ 88 := by
  have h := sum_le (k := 21) (ls := xs.map It.out) (by
    intro l hl
    obtain ⟨x, hx, rfl⟩ := List.mem_map.mp hl
    exact It.out_len (hok x hx))
  have h2 := inter_len [44] (xs.map It.out)
  rw [List.length_map] at h
  have e : ((xs.map It.out).map fun l => l.length + [44].length) = ((xs.map It.out).map fun l => l.length + 1) := rfl
  rw [e] at h2
  omega
theorem aout_list (w : World) (ax : Addr) (vs : List Value) (xs : List It) (hv : Its vs xs) (hok : ∀ x ∈ xs, x.Ok) (hlen : xs.length ≤ 4) :
    SpcG w 100 [.ref ax] 5 100 (fun h => h.IsList ax vs.toArray) (fun r => ∃ t, r = .str (T (aoOut xs)) t) := by
  refine SpcG.intro [("val", .ref ax)] (by k_is) (by k_is) rfl (locs rfl) rfl rfl rfl (by decide) ?_
  intro p loose mean mg mb dp un gd outer A₀ base h₀ L s ps B F N ht X Tp C h90 hG hd hu hx
  walk_at "mine go"
  unfold Stop
  rename Fr _ _ _ _ => F; rename News _ _ _ _ => N
  refine Assign_ListComp_G F rfl (by with_unfolding_all rfl) rfl (by decide) rfl (by decide) rfl rfl rfl ?_
  walk_at "mine go"
  have hl2 : vs.length = xs.length := hv.1
  refine csrc_list (σ := AO) (s := ⟨_, _, _, _, _⟩) (its := vs.toArray) (fun c => [(90, tabObj c.ps)]) (fun i c => TriplesOk c.ps.toList ∧ c.ys.length = i ∧ StrsAre c.ys ((xs.take i).map fun x => T x.out)) (fun c => c.ys) (fun s' => AllBare s'.gens ∧ s'.os = s.os) ⟨ps, []⟩ rfl (.inl hx) ?sz (fun _ _ _ h => h) ⟨hG, rfl⟩ (by with_reducible assumption) (by with_reducible assumption) ⟨ht, rfl, .nil⟩ ?adr ?turn ?done
  case sz => rw [List.size_toArray, sizeLine_eq]; omega
  case adr => rintro i c ⟨_, h, _⟩; exact ⟨h, fun p hp => by cases List.mem_singleton.mp hp; exact .head _⟩
  case turn =>
    rintro i ⟨ps₁, ys⟩ s₁ v I C₁ D oI oC m₂ E' hi ⟨ht₁, hy, hs⟩ ⟨hG₁, ho₁⟩ hoC hm₂ F₁ N₁ hlt hID hDC
    have hi' : vs[i]? = some v := by simpa using hi
    have hil : i < vs.length := (List.getElem?_eq_some_iff.mp hi').1
    obtain ⟨x, hxi⟩ : ∃ x, xs[i]? = some x := ⟨xs[i]'(hl2 ▸ hil), List.getElem?_eq_getElem (hl2 ▸ hil)⟩
    have hIs := hv.2 i v x hi' hxi
    have hOk := hok x (List.mem_of_getElem? hxi)
    have h90I : 90 < I := hlt _ (.head _)
    walk_at "mine go"
    unfold Stop
    refine SpcG.use1 (aout_item w v x hIs hOk) (ps := ps₁) (news := [(I, oI), (C₁, oC), (D, LCg.lst ys)]) (by walk_at "mine g") (news_mem (by with_reducible assumption) (by simp)) ?ne (by walk_at "mine g") trivial ?_
    case ne =>
      intro q hq
      simp only [List.mem_cons, List.not_mem_nil, or_false] at hq
      rcases hq with rfl | rfl | rfl
      · exact Nat.ne_of_gt h90I
      · exact Nat.ne_of_gt (Nat.lt_trans h90I (Nat.lt_trans hID hDC))
      · exact Nat.ne_of_gt (Nat.lt_trans h90I hID)
    rintro r s₂ ps₂ F₂ N₂ ht₂ hG₂ ho₂ ⟨t, rfl⟩
    walk_at "mine go"
    refine CEnd.mk ⟨ps₂, ys ++ [.str (T x.out) t]⟩ ⟨hG₂, ho₂.trans ho₁⟩ F₂ N₂ (by simp) ⟨ht₂, by simp [hy], ?_⟩ rfl
    rw [List.take_add_one, hxi, List.map_append]
    exact strs_snoc hs _ _
  case done =>
    rintro D ⟨ps₁, ys⟩ s₁ ⟨ht₁, hy, hs⟩ ⟨hG₁, ho₁⟩ hlt h₁ tk₁ F₁ N₁
    have hs' : StrsAre ys.toArray.toList ((xs.map It.out).map T) := by
      have e : xs.take vs.toArray.size = xs := by rw [List.size_toArray, hl2, List.take_length]
      rw [e] at hs
      rw [List.map_map]; exact hs
    have hb := outs_sum hok hlen
    have hb2 := outs_len hok hlen
    have hb3 : (T (inter [44] (xs.map It.out))).length < 2 ^ 24 := by rw [T_len]; omega
    walk_at "mine go"
    rename Fr _ _ _ _ => F; rename News _ _ _ _ => N
    dsimp only
    exact BackG.mk F N (.tail _ (.head _)) ht₁ hG₁ ho₁ ⟨_, rfl⟩
end PartK3_
section PartK4_
local macro_rules | `(tactic| walk_at "call ref") => `(tactic| refine Stop.mk ?_)
theorem anew_K4 : True := by
  w_top off
  exact trivial
local macro_rules | `(tactic| walk_at "execs nil") => `(tactic| refine wpAny_execs_nil ?_)
local macro_rules | `(tactic| walk_at "execs cons") => `(tactic| ((with_reducible refine wpAny_execs_cons ?_); try dsimp only))
local macro_rules | `(tactic| walk_at "exec If") => `(tactic| refine wpAny_If ?_)
theorem ident_spc (w : World) (l : List Nat) (ti : Tok) (hne : l ≠ []) (h0 : 0 ∉ l) (hlen : l.length ≤ 1000) : Spc w 120 [.str (T l) ti] 2 20 (fun _ => True) (fun _ v _ => ∃ t, v = .str (T ([34] ++ StrLaws.dbl 34 l ++ [34])) t) := by
  refine Spc.intro [("sql", .str (T l) ti)] (by k_is) (by k_is) rfl (locs rfl) rfl rfl rfl (by decide) ?_
  intro p loose mean mg mb dp un gd outer A₀ base h₀ L s B F N X Tp hd hu hx
  have hl1 : (T l).length < 2^24 := by rw [T_len]; omega
  have hl2 : (((T l).length : Int) == 0) = false := by
    rw [T_len]
    cases l with
    | nil => exact absurd rfl hne
    | cons a r => simp; omega
  have hz : decide (0 ∈ l) = false := decide_eq_false h0
  have hd2 := dbl_len 34 l
  have hd3 : (T (StrLaws.dbl 34 l)).length < 2^24 := by rw [T_len]; omega
  walk_at "mine go"
  trace_state
  walk_at "mine back"
theorem lit_none (w : World) : SpcG w 127 [.none] 2 20 (fun _ => True) (fun r => ∃ t, r = .str (T [78, 85, 76, 76]) t) := by
  refine SpcG.intro [("value", .none)] (by k_is) (by k_is) rfl (locs rfl) rfl rfl rfl (by decide) ?_
  intro p loose mean mg mb dp un gd outer A₀ base h₀ L s ps B F N ht X Tp C h90 hG hd hu hx
  walk_at "mine go"
  walk_at "mine backG"
theorem lit_bool (w : World) (b : Bool) : SpcG w 127 [.bool b] 2 20 (fun _ => True) (fun r => ∃ t, r = .str (T (if b then [84, 82, 85, 69] else [70, 65, 76, 83, 69])) t) := by
  refine SpcG.intro [("value", .bool b)] (by k_is) (by k_is) rfl (locs rfl) rfl rfl rfl (by decide) ?_
  intro p loose mean mg mb dp un gd outer A₀ base h₀ L s ps B F N ht X Tp C h90 hG hd hu hx
  cases b
  all_goals walk_at "mine go"
  all_goals walk_at "mine backG"
theorem lit_int (w : World) (z : Int) (ti : Tok) (h1 : -(10 ^ 20) < z) (h2 : z < 10 ^ 20) : SpcG w 127 [.int z ti] 2 20 (fun _ => True) (fun r => ∃ t, r = .str (T (num z)) t) := by
  refine SpcG.intro [("value", .int z ti)] (by k_is) (by k_is) rfl (locs rfl) rfl rfl rfl (by decide) ?_
  intro p loose mean mg mb dp un gd outer A₀ base h₀ L s ps B F N ht X Tp C h90 hG hd hu hx
  walk_at "mine go"
  walk_at "mine backG"
def litOut (l : List Nat) : List Nat := [39] ++ StrLaws.dbl 39 l ++ [39]
theorem lit_txt (w : World) (l : List Nat) (ti : Tok) (hlen : l.length ≤ 1000) : SpcG w 127 [.str (T l) ti] 2 20 (fun _ => True) (fun r => ∃ t, r = .str (T (litOut l)) t) := by
  refine SpcG.intro [("value", .str (T l) ti)] (by k_is) (by k_is) rfl (locs rfl) rfl rfl rfl (by decide) ?_
  intro p loose mean mg mb dp un gd outer A₀ base h₀ L s ps B F N ht X Tp C h90 hG hd hu hx
  have hl1 : (T l).length < 2^24 := by rw [T_len]; omega
  have hd2 := dbl_len 39 l
  have hd3 : (T (StrLaws.dbl 39 l)).length < 2^24 := by rw [T_len]; omega
  walk_at "mine go"
  walk_at "mine backG"
theorem aoOut_len {xs : List It} (hok : ∀ x ∈ xs, x.Ok) (hlen : xs.length ≤ 4) : (aoOut xs).length ≤ 90 := by
  have := outs_len hok hlen
  unfold aoOut
  simp only [List.length_append, List.length_cons, List.length_nil]; omega
theorem lit_list (w : World) (ax : Addr) (vs : List Value) (xs : List It) (hv : Its vs xs) (hok : ∀ x ∈ xs, x.Ok) (hlen : xs.length ≤ 4) :
    SpcG w 127 [.ref ax] 6 120 (fun h => h.IsList ax vs.toArray) (fun r => ∃ t, r = .str (T (litOut (aoOut xs))) t) := by
  refine SpcG.intro [("value", .ref ax)] (by k_is) (by k_is) rfl (locs rfl) rfl rfl rfl (by decide) ?_
  intro p loose mean mg mb dp un gd outer A₀ base h₀ L s ps B F N ht X Tp C h90 hG hd hu hx
  walk_at "mine go"
  unfold Stop
  refine SpcG.use1 (aout_list w ax vs xs hv hok hlen) (ps := ps) (news := []) (by walk_at "mine g") (news_mem (by with_reducible assumption) (by simp)) (by simp) (by walk_at "mine g") ?pre ?_
  case pre => 
    rename Fr _ _ _ _ => F; rename News _ _ _ _ => N
    exact (hide_list F hx (N _ (by k_mem)).1)
  rintro v s₂ ps₂ F₂ N₂ ht₂ hG₂ ho₂ ⟨t, rfl⟩
  have h5 := aoOut_len hok hlen
  walk_at "mine go"
  unfold Stop
  refine SpcG.use1 (lit_txt w (aoOut xs) _ (by omega)) (ps := ps₂) (news := []) (by walk_at "mine g") (news_mem (by with_reducible assumption) (by simp)) (by simp) (by walk_at "mine g") trivial ?_
  rintro v s₃ ps₃ F₃ N₃ ht₃ hG₃ ho₃ ⟨t, rfl⟩
  have h6 := dbl_len 39 (aoOut xs)
  have h7 : (T (litOut (aoOut xs))).length < 2^24 := by rw [T_len]; unfold litOut; simp only [List.length_append, List.length_cons, List.length_nil]; omega
  have h8 : (litOut (aoOut xs)).length ≤ 2^20 := by rw [T_len] at h7; unfold litOut; simp only [List.length_append, List.length_cons, List.length_nil]; omega
  walk_at "mine go"
  have ho := ho₃.trans ho₂
  walk_at "mine backG"
end PartK4_
section Pre4_
local macro_rules | `(tactic| walk_at "mine nat") => `(tactic| with_reducible first | exact rfl | exact litN _ | assumption)
local macro_rules | `(tactic| walk_at "binaryOp FloorDiv int int") => `(tactic| (refine' r_fdiv ?a ?b ?d ?r ?_; (case a => walk_at "mine nat"); (case b => walk_at "mine nat"); (case d => omega); (case r => omega)))
local macro_rules | `(tactic| walk_at "binaryOp Mod int int") => `(tactic| (refine' r_fmod ?a ?b ?d ?_; (case a => walk_at "mine nat"); (case b => walk_at "mine nat"); (case d => omega)))

section PartK5_
local macro_rules | `(tactic| walk_at "call ref") => `(tactic| refine Stop.mk ?_)
theorem anew_K5 : True := by
  w_top off
  exact trivial
local macro_rules | `(tactic| walk_at "eval ListComp") => `(tactic| refine Stop.mk ?_)
local macro_rules | `(tactic| walk_at "pyIter ref") => `(tactic| refine Stop.mk ?_)
def lawSigns : List Nat := [97, 90, 34, 39, 92, 59, 32, 45, 10, 44, 61, 233]
theorem lit_signs : Str.ofString "aZ\"'\\; -\n,=é" = T lawSigns := by decide +kernel
local macro_rules | `(tactic| walk_at "subscriptTail Name BinOp str int") => `(tactic| (rw [lit_signs]; refine' r_item ?z ?h ?l ?_; (case z => assumption); (case h => assumption); (case l => decide)))
def sgOf (r k : Nat) : Nat := lawSigns.getD (r / 12 ^ k % 12) 0
def textOf (r n : Nat) : List Nat := (List.range n).map (sgOf r)
theorem inter_ones (f : Nat → Nat) (l : List Nat) : inter [] (l.map fun k => [f k]) = l.map f := by
  induction l with
  | nil => rfl
  | cons a r ih =>
    cases r with
    | nil => rfl
    | cons b r =>
      show [f a] ++ [] ++ inter [] ((b :: r).map fun k => [f k]) = _
      rw [ih]; rfl
structure TX where
  (ys : List Value)
theorem text_spc (w : World) (r n : Nat) (tr tn : Tok) (hr : r < 10 ^ 10) (hn : n ≤ 6) : Spc w 194 [.int r tr, .int n tn] 2 20 (fun _ => True) (fun _ v _ => ∃ t, v = .str (T (textOf r n)) t) := by
  refine Spc.introC [("rest", .int r tr), ("size", .int n tn)] (by k_is) (by k_is) rfl rfl (by decide +kernel) rfl rfl rfl ?_
  intro p loose mean mg mb dp un gd outer A₀ base h₀ L s cells B F N Y X Tp hd hu hx
  obtain ⟨oC, hE, dC⟩ := CellsAre.one Y
  subst hE
  clear Y
  walk_at "mine go"
  unfold Stop
  rename Fr _ _ _ _ => F; rename News _ _ _ _ => N
  refine ListComp_G F rfl (by decide) rfl (by decide) rfl ?_
  walk_at "mine go"
  unfold Stop
  rename Fr _ _ _ _ => F; rename News _ _ _ _ => N; rename IsRange _ _ _ _ _ _ _ _ => hR
  refine csrc_range (σ := TX) (s := ⟨_, _, _, _, _⟩) n (fun c => [(L + 1, oC)]) (fun i c => c.ys.length = i ∧ StrsAre c.ys (((List.range i).map fun k => [sgOf r k]).map T)) (fun c => c.ys) (Same s) ⟨[]⟩ rfl hR rfl (by omega) (fun _ _ _ h => h) Same.rfl F N ⟨rfl, .nil⟩ ?adr ?turn ?done
  case adr => rintro i c ⟨h, _⟩; exact ⟨h, fun p hp => by cases List.mem_singleton.mp hp; exact .head _⟩
  case turn =>
    rintro i ⟨ys⟩ s₁ tv I C₁ D oI oC₁ m₂ E' hi ⟨hy, hs⟩ hg hoC hm₂ F₁ N₁ hlt hID hDC
    obtain ⟨h₁, k₁, rfl⟩ := hg.ex
    have hi6 : i < 6 := by omega
    have ed : ([1, 12, 144, 1728, 20736, 248832] : List Int).getD ((i : Int).toNat) 0 = ((12 ^ i : Nat) : Int) := by
      rcases i with _ | _ | _ | _ | _ | _ | i
      · rfl
      · rfl
      · rfl
      · rfl
      · rfl
      · rfl
      · omega
    have hd1 : 0 < 12 ^ i := Nat.pow_pos (by decide)
    obtain ⟨d, ed2⟩ : ∃ d, d = 12 ^ i := ⟨_, rfl⟩
    have hd2 : 12 ^ i < 2 ^ 30 := Nat.lt_of_le_of_lt (Nat.pow_le_pow_right (by decide) (by omega : i ≤ 6)) (by decide)
    rw [← ed2] at ed hd1 hd2
    walk_at "mine go"
    have hj : r / d % 12 < 12 := Nat.mod_lt _ (by decide)
    have hc : lawSigns[r / d % 12]? = some (sgOf r i) := by
      unfold sgOf
      rw [← ed2, List.getD_eq_getElem?_getD, List.getElem?_eq_getElem (by exact hj), Option.getD_some]
    rw [lit_signs, item_T hc]
    rename Fr _ _ _ _ => F₃; rename News _ _ _ _ => N₃
    refine CEnd.mk ⟨ys ++ [.str (T [sgOf r i]) _]⟩ Same.rfl F₃ N₃ (by simp) ⟨by simp [hy], ?_⟩ rfl
    rw [List.range_succ, List.map_append, List.map_append]
    exact strs_snoc hs _ _
  case done =>
    rintro D ⟨ys⟩ s₁ ⟨hy, hs⟩ hg hlt h₂ F₁ N₁
    obtain ⟨h₁, k₁, rfl⟩ := hg.ex
    have hb : (((List.range n).map fun k => [sgOf r k]).map fun l => l.length + 1).sum ≤ 1048576 := by
      have h := sum_le (k := 1) (ls := (List.range n).map fun k => [sgOf r k]) (by intro l hl; obtain ⟨x, _, rfl⟩ := List.mem_map.mp hl; exact Nat.le_refl _)
      rw [List.length_map, List.length_range] at h
      omega
    walk_at "mine go"
    rw [inter_ones]
    exact Back.mk (by with_reducible assumption) ⟨_, rfl⟩
end PartK5_
section PartL6_
set_option maxRecDepth 100000
set_option maxHeartbeats 4000000
/-- a value of the law -/
inductive Val where
  | non
  | bool (b : Bool)
  | int (z : Int)
  | list (xs : List It)
  | rng (lo : Nat) (hi : Option Nat)
  | txt (l : List Nat)
abbrev rngD (w : World) (v1 v2 : Value) (k1 k2 k3 k4 tb : Tok) : Obj :=
  dictOf [⟨PyData.keyHash w.params (Str.ofString "lower"), .str (Str.ofString "lower") k1, v1⟩, ⟨PyData.keyHash w.params (Str.ofString "upper"), .str (Str.ofString "upper") k2, v2⟩,
    ⟨PyData.keyHash w.params (Str.ofString "bounds"), .str (Str.ofString "bounds") k3, .str (Str.ofString "[)") tb⟩, ⟨PyData.keyHash w.params (Str.ofString "is_empty"), .str (Str.ofString "is_empty") k4, .bool false⟩] 4
def HiIs (v : Value) : Option Nat → Prop
  | none => v = .none
  | some n => ∃ t, v = .int n t
/-- a value, and the objects that it is made of -/
def VIs (w : World) (v : Value) (os : List (Addr × Obj)) : Val → Prop
  | .non => v = .none ∧ os = []
  | .bool b => v = .bool b ∧ os = []
  | .int z => (∃ t, v = .int z t) ∧ os = []
  | .list xs => ∃ a vs, v = .ref a ∧ os = [(a, LCg.lst vs)] ∧ Its vs xs
  | .rng lo hi => ∃ a d v2 k1 k2 k3 k4 tb t, v = .ref a ∧ os = [(a, instObj 164 d), (d, rngD w (.int lo t) v2 k1 k2 k3 k4 tb)] ∧ HiIs v2 hi
  | .txt l => (∃ t, v = .str (T l) t) ∧ os = []
def itN (r k : Nat) : It := if r / (k + 2) % 4 = 0 then .non else .int (r / (k + 1) : Nat)
def itT (r k : Nat) : It := if r / (k + 2) % 4 = 0 then .non else .txt (textOf (r / (k + 1)) ((r + k) % 4))
def worthOf (kind r : Nat) : Val :=
  if kind = 0 then (if r % 3 = 0 then .non else .bool (decide (r % 3 = 1)))
  else if kind = 1 then .int (if r % 2 = 0 then 0 - (r : Int) * r else r)
  else if kind = 2 then .list ((List.range (r % 4)).map (itN r))
  else if kind = 3 then .list ((List.range (r % 4)).map (itT r))
  else if kind = 4 then .rng (r % 50) (if r % 3 = 0 then none else some r)
  else .txt (textOf (r / 7) (r % 7))
def worth (n : Nat) : Val := worthOf (n % 7) (n / 7)
/-- the objects stand in the heap, and not in the older one -/
def ObjsIn (h₀ h : Heap) (os : List (Addr × Obj)) : Prop := ∀ q ∈ os, h.get? q.1 = some q.2 ∧ h₀.get? q.1 = none
theorem rng_back {w : World} {h₀ h : Heap} {L x d : Addr} {rest : List (Addr × Obj)} {lo : Nat} {hi : Option Nat} {v2 : Value} {k1 k2 k3 k4 tb t : Tok} (N : News h₀ L h ((x, instObj 164 d) :: (d, rngD w (.int lo t) v2 k1 k2 k3 k4 tb) :: rest)) (hh : HiIs v2 hi) : ∃ os, VIs w (.ref x) os (.rng lo hi) ∧ ObjsIn h₀ h os := by
  refine ⟨_, ⟨x, d, v2, k1, k2, k3, k4, tb, t, rfl, rfl, hh⟩, fun q hq => ?_⟩
  simp only [List.mem_cons, List.not_mem_nil, or_false] at hq
  rcases hq with rfl | rfl
  · exact ⟨(N _ (.head _)).1, (N _ (.head _)).2.2⟩
  · exact ⟨(N _ (.tail _ (.head _))).1, (N _ (.tail _ (.head _))).2.2⟩
theorem list_back {w : World} {h₀ h : Heap} {L x : Addr} {rest : List (Addr × Obj)} {vs : List Value} {xs : List It} (N : News h₀ L h ((x, LCg.lst vs) :: rest)) (hh : Its vs xs) : ∃ os, VIs w (.ref x) os (.list xs) ∧ ObjsIn h₀ h os := by
  refine ⟨_, ⟨x, vs, rfl, rfl, hh⟩, fun q hq => ?_⟩
  cases List.mem_singleton.mp hq
  exact ⟨(N _ (.head _)).1, (N _ (.head _)).2.2⟩
theorem natAdd (a n : Nat) : (a : Int) + (@OfNat.ofNat Int n (@instOfNat n)) = ((a + @OfNat.ofNat Nat n (instOfNatNat n) : Nat) : Int) := rfl
theorem natAdd2 (a b : Nat) : (a : Int) + (b : Int) = ((a + b : Nat) : Int) := rfl
theorem natAdd3 (a n : Nat) : (@OfNat.ofNat Int n (@instOfNat n)) + (a : Int) = ((@OfNat.ofNat Nat n (instOfNatNat n) + a : Nat) : Int) := rfl
theorem natMul3 (a n : Nat) : (@OfNat.ofNat Int n (@instOfNat n)) * (a : Int) = ((@OfNat.ofNat Nat n (instOfNatNat n) * a : Nat) : Int) := rfl
theorem natEqN {a b : Int} {x y : Nat} (ha : a = x) (hb : b = y) : a + b = ((x + y : Nat) : Int) := by subst ha hb; rfl
theorem Its.nil : Its [] [] := ⟨rfl, fun _ _ _ h => by cases h⟩
theorem Its.snoc {vs : List Value} {xs : List It} {v : Value} {x : It} (h : Its vs xs) (hv : x.Is v) : Its (vs ++ [v]) (xs ++ [x]) := by
  refine ⟨by rw [List.length_append, List.length_append, h.1]; rfl, fun i v' x' h1 h2 => ?_⟩
  rcases Nat.lt_trichotomy i vs.length with hi | hi | hi
  · rw [List.getElem?_append_left hi] at h1
    rw [List.getElem?_append_left (h.1 ▸ hi)] at h2
    exact h.2 i v' x' h1 h2
  · subst hi
    rw [List.getElem?_append_right (Nat.le_refl _), Nat.sub_self] at h1
    rw [h.1, List.getElem?_append_right (Nat.le_refl _), Nat.sub_self] at h2
    cases h1; cases h2; exact hv
  · rw [List.getElem?_eq_none (by rw [List.length_append]; exact hi)] at h1
    cases h1
theorem natT {a b : Nat} {z : Int} (hz : z = b) (h : a = b) : (((a : Nat) : Int) == z) = true := by subst hz h; simp
theorem natF {a b : Nat} {z : Int} (hz : z = b) (h : a ≠ b) : (((a : Nat) : Int) == z) = false := by
  subst hz
  rw [beq_eq_false_iff_ne]
  omega
end PartL6_
section Pre5_
local macro_rules | `(tactic| walk_at "mine nat") => `(tactic| with_reducible first | exact rfl | exact litN _ | exact natAdd _ _ | exact natAdd2 _ _ | exact natAdd3 _ _ | exact natMul3 _ _ | assumption)

section PartV1_
theorem anew_V1 : True := by
  w_top off
  exact trivial
theorem ktrTop_depth {dp un : Nat} {gd : Option (List Code)} {cn : Str} {cs : Scope} {a L : Addr} {ccd : Value} {cl : List (Str × Addr)} {outer : List Env} : (ktrTop dp un gd cn cs L a ccd cl outer).depth = dp := rfl
local macro_rules | `(tactic| k_room) => `(tactic| ((simp only [depth_under_make, depth_under_kw, depth_in1, depth_deeper, ktrTop_depth]); omega))
theorem worth0 (w : World) (n : Nat) (t : Tok) (hn : n < 10 ^ 10) (hk : n % 7 = 0) : Spc w 199 [.int n t] 4 60 (fun _ => True) (fun h₀ v h' => ∃ os, VIs w v os (worth n) ∧ ObjsIn h₀ h' os) := by
  refine Spc.introC [("draw", .int n t)] (by k_is) (by k_is) rfl rfl (by decide +kernel) rfl rfl rfl ?_
  intro p loose mean mg mb dp un gd outer A₀ base h₀ L s cells B F N Y X Tp hd hu hx
  obtain ⟨oC, hE, dC⟩ := CellsAre.one Y
  subst hE
  clear Y
  have k0 : (((n % 7 : Nat) : Int) == 0) = true := natT (litN _) hk
  have hw : worth n = worthOf 0 (n / 7) := by unfold worth; rw [hk]
  rw [hw]
  by_cases h3 : n / 7 % 3 = 0
  · have k1 : (((n / 7 % 3 : Nat) : Int) == 0) = true := natT (litN _) h3
    walk_at "mine go"
    dsimp only
    exact Back.mk (by with_reducible assumption) ⟨[], by unfold worthOf; rw [if_pos rfl, if_pos h3]; exact ⟨rfl, rfl⟩, fun _ q => nomatch q⟩
  · have k1 : (((n / 7 % 3 : Nat) : Int) == 0) = false := natF (litN _) h3
    have k2 : (((n / 7 % 3 : Nat) : Int) == 1) = decide (n / 7 % 3 = 1) := by
      by_cases h : n / 7 % 3 = 1
      · rw [natT (litN _) h, decide_eq_true h]
      · rw [natF (litN _) h, decide_eq_false h]
    walk_at "mine go"
    dsimp only
    exact Back.mk (by with_reducible assumption) ⟨[], by unfold worthOf; rw [if_pos rfl, if_neg h3]; exact ⟨congrArg Value.bool k2, rfl⟩, fun _ q => nomatch q⟩
theorem worth1 (w : World) (n : Nat) (t : Tok) (hn : n < 10 ^ 10) (hk : n % 7 = 1) : Spc w 199 [.int n t] 4 60 (fun _ => True) (fun h₀ v h' => ∃ os, VIs w v os (worth n) ∧ ObjsIn h₀ h' os) := by
  refine Spc.introC [("draw", .int n t)] (by k_is) (by k_is) rfl rfl (by decide +kernel) rfl rfl rfl ?_
  intro p loose mean mg mb dp un gd outer A₀ base h₀ L s cells B F N Y X Tp hd hu hx
  obtain ⟨oC, hE, dC⟩ := CellsAre.one Y
  subst hE
  clear Y
  have k0 : (((n % 7 : Nat) : Int) == 0) = false := natF (litN _) (by omega)
  have k1 : (((n % 7 : Nat) : Int) == 1) = true := natT (litN _) hk
  have hw : worth n = worthOf 1 (n / 7) := by unfold worth; rw [hk]
  rw [hw]
  by_cases h3 : n / 7 % 2 = 0
  · have k2 : (((n / 7 % 2 : Nat) : Int) == 0) = true := natT (litN _) h3
    walk_at "mine go"
    dsimp only
    exact Back.mk (by with_reducible assumption) ⟨[], by unfold worthOf; rw [if_neg (by decide), if_pos rfl, if_pos h3]; exact ⟨⟨_, rfl⟩, rfl⟩, fun _ q => nomatch q⟩
  · have k2 : (((n / 7 % 2 : Nat) : Int) == 0) = false := natF (litN _) h3
    walk_at "mine go"
    dsimp only
    exact Back.mk (by with_reducible assumption) ⟨[], by unfold worthOf; rw [if_neg (by decide), if_pos rfl, if_neg h3]; exact ⟨⟨_, rfl⟩, rfl⟩, fun _ q => nomatch q⟩
theorem worth4 (w : World) (n : Nat) (t : Tok) (hn : n < 10 ^ 10) (hk : n % 7 = 4) : Spc w 199 [.int n t] 4 60 (fun _ => True) (fun h₀ v h' => ∃ os, VIs w v os (worth n) ∧ ObjsIn h₀ h' os) := by
  refine Spc.introC [("draw", .int n t)] (by k_is) (by k_is) rfl rfl (by decide +kernel) rfl rfl rfl ?_
  intro p loose mean mg mb dp un gd outer A₀ base h₀ L s cells B F N Y X Tp hd hu hx
  obtain ⟨oC, hE, dC⟩ := CellsAre.one Y
  subst hE
  clear Y
  have k0 : (((n % 7 : Nat) : Int) == 0) = false := natF (litN _) (by omega)
  have k1 : (((n % 7 : Nat) : Int) == 1) = false := natF (litN _) (by omega)
  have k2 : (((n % 7 : Nat) : Int) == 2) = false := natF (litN _) (by omega)
  have k3 : (((n % 7 : Nat) : Int) == 3) = false := natF (litN _) (by omega)
  have k4 : (((n % 7 : Nat) : Int) == 4) = true := natT (litN _) hk
  have hw : worth n = worthOf 4 (n / 7) := by unfold worth; rw [hk]
  rw [hw]
  by_cases h3 : n / 7 % 3 = 0
  · have k5 : (((n / 7 % 3 : Nat) : Int) == 0) = true := natT (litN _) h3
    walk_at "mine go"
    rename Fr h₀ _ _ _ => F2; rename News h₀ _ _ _ => N2
    (try dsimp only)
    refine Back.mk F2 ?_
    unfold worthOf
    rw [if_neg (by decide), if_neg (by decide), if_neg (by decide), if_neg (by decide), if_pos rfl, if_pos h3]
    exact rng_back N2 rfl
  · have k5 : (((n / 7 % 3 : Nat) : Int) == 0) = false := natF (litN _) h3
    walk_at "mine go"
    rename Fr h₀ _ _ _ => F2; rename News h₀ _ _ _ => N2
    (try dsimp only)
    refine Back.mk F2 ?_
    unfold worthOf
    rw [if_neg (by decide), if_neg (by decide), if_neg (by decide), if_neg (by decide), if_pos rfl, if_neg h3]
    exact rng_back N2 ⟨_, rfl⟩
end PartV1_
section PartV2_
local macro_rules | `(tactic| walk_at "call ref") => `(tactic| refine Stop.mk ?_)
theorem anew_V2 : True := by
  w_top off
  exact trivial
local macro_rules | `(tactic| walk_at "eval ListComp") => `(tactic| refine Stop.mk ?_)
local macro_rules | `(tactic| walk_at "pyIter ref") => `(tactic| refine Stop.mk ?_)
structure WO where
  (ys : List Value)
theorem worth2 (w : World) (n : Nat) (t : Tok) (hn : n < 10 ^ 10) (hk : n % 7 = 2) : Spc w 199 [.int n t] 4 60 (fun _ => True) (fun h₀ v h' => ∃ os, VIs w v os (worth n) ∧ ObjsIn h₀ h' os) := by
  refine Spc.introC [("draw", .int n t)] (by k_is) (by k_is) rfl rfl (by decide +kernel) rfl rfl rfl ?_
  intro p loose mean mg mb dp un gd outer A₀ base h₀ L s cells B F N Y X Tp hd hu hx
  obtain ⟨oC, hE, dC⟩ := CellsAre.one Y
  subst hE
  clear Y
  have k0 : (((n % 7 : Nat) : Int) == 0) = false := natF (litN _) (by omega)
  have k1 : (((n % 7 : Nat) : Int) == 1) = false := natF (litN _) (by omega)
  have k2 : (((n % 7 : Nat) : Int) == 2) = true := natT (litN _) hk
  have hw : worth n = worthOf 2 (n / 7) := by unfold worth; rw [hk]
  rw [hw]
  walk_at "mine go"
  unfold Stop
  rename Fr _ _ _ _ => F; rename News _ _ _ _ => N
  refine ListComp_G F rfl (by decide) rfl (by decide) rfl ?_
  walk_at "mine go"
  unfold Stop
  rename Fr _ _ _ _ => F; rename News _ _ _ _ => N; rename IsRange _ _ _ _ _ _ _ _ => hR
  rename Obj => oR; rename oR.data = _ => dR
  have N1 := news_mem (b := [(L + 1, oR)]) N (by simp)
  refine csrc_range (σ := WO) (s := ⟨_, _, _, _, _⟩) (n / 7 % 4) (fun c => [(L + 1, oR)]) (fun i c => Its c.ys ((List.range i).map (itN (n / 7)))) (fun c => c.ys) (Same s) ⟨[]⟩ rfl hR rfl (by omega) (fun _ _ _ h => h) Same.rfl F N1 Its.nil ?adr ?turn ?done
  case adr => rintro i c h; exact ⟨by rw [h.1]; simp, fun p hp => by cases List.mem_singleton.mp hp; exact .head _⟩
  case turn =>
    rintro i ⟨ys⟩ s₁ tv I C₁ D oI oC₁ m₂ E' hi hs hg hoC hm₂ F₁ N₁ hlt hID hDC
    obtain ⟨h₁, k₁, rfl⟩ := hg.ex
    have hi4 : i < 4 := by omega
    by_cases h4 : n / 7 / (i + 2) % 4 = 0
    · have k4 : (((n / 7 / (i + 2) % 4 : Nat) : Int) == 0) = true := natT (litN _) h4
      walk_at "mine go"
      rename Fr _ _ _ _ => F₃; rename News _ _ _ _ => N₃
      refine CEnd.mk ⟨ys ++ [.none]⟩ Same.rfl F₃ N₃ (by simp) ?_ rfl
      rw [List.range_succ, List.map_append]
      exact hs.snoc (by show (itN _ _).Is _; unfold itN; rw [if_pos h4]; rfl)
    · have k4 : (((n / 7 / (i + 2) % 4 : Nat) : Int) == 0) = false := natF (litN _) h4
      walk_at "mine go"
      rename Fr _ _ _ _ => F₃; rename News _ _ _ _ => N₃
      refine CEnd.mk ⟨ys ++ [.int (n / 7 / (i + 1) : Nat) _]⟩ Same.rfl F₃ N₃ (by simp) ?_ rfl
      rw [List.range_succ, List.map_append]
      exact hs.snoc (by show (itN _ _).Is _; unfold itN; rw [if_neg h4]; exact ⟨_, rfl⟩)
  case done =>
    rintro D ⟨ys⟩ s₁ hs hg hlt h₂ F₁ N₁
    obtain ⟨h₁, k₁, rfl⟩ := hg.ex
    refine Back.mk F₁ ?_
    unfold worthOf
    rw [if_neg (by decide), if_neg (by decide), if_pos rfl]
    exact list_back N₁ hs
end PartV2_
section PartV3_
local macro_rules | `(tactic| walk_at "call ref") => `(tactic| refine Stop.mk ?_)
local macro_rules | `(tactic| walk_at "no place 0") => `(tactic| skip)
theorem anew_V3 : True := by
  w_top off
  exact trivial
local macro_rules | `(tactic| walk_at "eval ListComp") => `(tactic| refine Stop.mk ?_)
local macro_rules | `(tactic| walk_at "pyIter ref") => `(tactic| refine Stop.mk ?_)
theorem worth3 (w : World) (n : Nat) (t : Tok) (hn : n < 10 ^ 10) (hk : n % 7 = 3) : Spc w 199 [.int n t] 4 60 (fun _ => True) (fun h₀ v h' => ∃ os, VIs w v os (worth n) ∧ ObjsIn h₀ h' os) := by
  refine Spc.introC [("draw", .int n t)] (by k_is) (by k_is) rfl rfl (by decide +kernel) rfl rfl rfl ?_
  intro p loose mean mg mb dp un gd outer A₀ base h₀ L s cells B F N Y X Tp hd hu hx
  obtain ⟨oC, hE, dC⟩ := CellsAre.one Y
  subst hE
  clear Y
  have k0 : (((n % 7 : Nat) : Int) == 0) = false := natF (litN _) (by omega)
  have k1 : (((n % 7 : Nat) : Int) == 1) = false := natF (litN _) (by omega)
  have k2 : (((n % 7 : Nat) : Int) == 2) = false := natF (litN _) (by omega)
  have k3 : (((n % 7 : Nat) : Int) == 3) = true := natT (litN _) hk
  have hw : worth n = worthOf 3 (n / 7) := by unfold worth; rw [hk]
  rw [hw]
  walk_at "mine go"
  unfold Stop
  rename Fr _ _ _ _ => F; rename News _ _ _ _ => N
  refine ListComp_G F rfl (by decide) rfl (by decide) rfl ?_
  walk_at "mine go"
  unfold Stop
  rename Fr _ _ _ _ => F; rename News _ _ _ _ => N; rename IsRange _ _ _ _ _ _ _ _ => hR
  rename Obj => oR; rename oR.data = _ => dR
  have N1 := news_mem (b := [(L + 1, oR)]) N (by simp)
  refine csrc_range (σ := WO) (s := ⟨_, _, _, _, _⟩) (n / 7 % 4) (fun c => [(L + 1, oR)]) (fun i c => Its c.ys ((List.range i).map (itT (n / 7)))) (fun c => c.ys) (Same s) ⟨[]⟩ rfl hR rfl (by omega) (fun _ _ _ h => h) Same.rfl F N1 Its.nil ?adr ?turn ?done
  case adr => rintro i c h; exact ⟨by rw [h.1]; simp, fun p hp => by cases List.mem_singleton.mp hp; exact .head _⟩
  case turn =>
    rintro i ⟨ys⟩ s₁ tv I C₁ D oI oC₁ m₂ E' hi hs hg hoC hm₂ F₁ N₁ hlt hID hDC
    obtain ⟨h₁, k₁, rfl⟩ := hg.ex
    have hi4 : i < 4 := by omega
    by_cases h4 : n / 7 / (i + 2) % 4 = 0
    · have k4 : (((n / 7 / (i + 2) % 4 : Nat) : Int) == 0) = true := natT (litN _) h4
      walk_at "mine go"
      rename Fr _ _ _ _ => F₃; rename News _ _ _ _ => N₃
      refine CEnd.mk ⟨ys ++ [.none]⟩ Same.rfl F₃ N₃ (by simp) ?_ rfl
      rw [List.range_succ, List.map_append]
      exact hs.snoc (by show (itT _ _).Is _; unfold itT; rw [if_pos h4]; rfl)
    · have k4 : (((n / 7 / (i + 2) % 4 : Nat) : Int) == 0) = false := natF (litN _) h4
      have hr1 : n / 7 / (i + 1) < 10 ^ 10 := Nat.lt_of_le_of_lt (Nat.div_le_self _ _) (by omega)
      have hr2 : (n / 7 + i) % 4 ≤ 6 := by omega
      walk_at "mine go"
      unfold Stop
      refine Spc.use1 (text_spc w (n / 7 / (i + 1)) ((n / 7 + i) % 4) _ _ hr1 hr2) (by walk_at "mine g") (by walk_at "mine g") trivial ?_
      rintro v h' tk' F' N' ⟨t, rfl⟩
      walk_at "mine go"
      rename Fr _ _ _ _ => F₃; rename News _ _ _ _ => N₃
      refine CEnd.mk ⟨ys ++ [.str (T (textOf (n / 7 / (i + 1)) ((n / 7 + i) % 4))) t]⟩ Same.rfl F₃ N₃ (by simp) ?_ rfl
      rw [List.range_succ, List.map_append]
      exact hs.snoc (by show (itT _ _).Is _; unfold itT; rw [if_neg h4]; exact ⟨_, rfl⟩)
  case done =>
    rintro D ⟨ys⟩ s₁ hs hg hlt h₂ F₁ N₁
    obtain ⟨h₁, k₁, rfl⟩ := hg.ex
    refine Back.mk F₁ ?_
    unfold worthOf
    rw [if_neg (by decide), if_neg (by decide), if_neg (by decide), if_pos rfl]
    exact list_back N₁ hs
theorem worth5 (w : World) (n : Nat) (t : Tok) (hn : n < 10 ^ 10) (hk : 5 ≤ n % 7) : Spc w 199 [.int n t] 4 60 (fun _ => True) (fun h₀ v h' => ∃ os, VIs w v os (worth n) ∧ ObjsIn h₀ h' os) := by
  refine Spc.introC [("draw", .int n t)] (by k_is) (by k_is) rfl rfl (by decide +kernel) rfl rfl rfl ?_
  intro p loose mean mg mb dp un gd outer A₀ base h₀ L s cells B F N Y X Tp hd hu hx
  obtain ⟨oC, hE, dC⟩ := CellsAre.one Y
  subst hE
  clear Y
  have k0 : (((n % 7 : Nat) : Int) == 0) = false := natF (litN _) (by omega)
  have k1 : (((n % 7 : Nat) : Int) == 1) = false := natF (litN _) (by omega)
  have k2 : (((n % 7 : Nat) : Int) == 2) = false := natF (litN _) (by omega)
  have k3 : (((n % 7 : Nat) : Int) == 3) = false := natF (litN _) (by omega)
  have k4 : (((n % 7 : Nat) : Int) == 4) = false := natF (litN _) (by omega)
  have hw : worth n = .txt (textOf (n / 7 / 7) (n / 7 % 7)) := by unfold worth worthOf; rw [if_neg (by omega), if_neg (by omega), if_neg (by omega), if_neg (by omega), if_neg (by omega)]
  rw [hw]
  walk_at "mine go"
  unfold Stop
  refine Spc.use1 (text_spc w (n / 7 / 7) (n / 7 % 7) _ _ (by omega) (by omega)) (by walk_at "mine g") (by walk_at "mine g") trivial ?_
  rintro v h' tk' F' N' ⟨t, rfl⟩
  walk_at "mine go"
  (try dsimp only)
  exact Back.mk (by with_reducible assumption) ⟨[], ⟨⟨_, rfl⟩, rfl⟩, fun _ q => nomatch q⟩
theorem worth_spc (w : World) (n : Nat) (t : Tok) (hn : n < 10 ^ 10) : Spc w 199 [.int n t] 4 60 (fun _ => True) (fun h₀ v h' => ∃ os, VIs w v os (worth n) ∧ ObjsIn h₀ h' os) := by
  rcases Nat.lt_or_ge (n % 7) 5 with h | h
  · rcases (by omega : n % 7 = 0 ∨ n % 7 = 1 ∨ n % 7 = 2 ∨ n % 7 = 3 ∨ n % 7 = 4) with h | h | h | h | h
    · exact worth0 w n t hn h
    · exact worth1 w n t hn h
    · exact worth2 w n t hn h
    · exact worth3 w n t hn h
    · exact worth4 w n t hn h
  · exact worth5 w n t hn h
end PartV3_
section PartQ1_
open Builtin Builtin.Str
set_option maxRecDepth 100000
set_option maxHeartbeats 4000000
def upS (c : Nat) : Nat := if c = 97 then 65 else if c = 233 then 201 else c
def allow : List Nat := lawSigns ++ [48, 49, 50, 51, 52, 53, 54, 55, 56, 57, 78, 85, 76]
theorem up_allow : ∀ c ∈ allow, Unicode.upperOf c = [upS c] := by decide +kernel
theorem mapIdx_const {α β : Type} (l : List α) (g : α → β) : l.mapIdx (fun _ a => g a) = l.map g := by
  apply List.ext_getElem?
  intro i
  simp
theorem upper_T (l : List Nat) : Txt.upper (T l) = T (l.flatMap Unicode.upperOf) := by
  refine signs_T ?_
  show (placed (T l) fun _ c => Unicode.upperOf c).toList = _
  unfold placed
  rw [Array.toList_flatten, Array.toList_mapIdx, T_list, mapIdx_const, List.map_map, List.flatMap_def]
  rfl
theorem up_of {l : List Nat} (h : ∀ c ∈ l, c ∈ allow) : Txt.upper (T l) = T (l.map upS) := by
  rw [upper_T]
  congr 1
  induction l with
  | nil => rfl
  | cons c r ih => rw [List.flatMap_cons, up_allow c (h c (.head _)), ih fun d hd => h d (.tail _ hd)]; rfl
theorem law_plain : ∀ c ∈ lawSigns, c ≠ 34 → c ≠ 92 → c ≠ 44 → spB c = false → isStopU c = false ∧ isB c = false := by decide +kernel
theorem law_up : ∀ c ∈ lawSigns, upS c ≠ 78 := by decide +kernel
theorem dig_plain : ∀ c ∈ [45, 48, 49, 50, 51, 52, 53, 54, 55, 56, 57], isStopU c = false ∧ c ≠ 92 ∧ isB c = false ∧ upS c = c ∧ c ∈ allow ∧ c ≠ 78 := by decide +kernel
theorem num_mem (z : Int) : ∀ c ∈ num z, c ∈ [45, 48, 49, 50, 51, 52, 53, 54, 55, 56, 57] := by
  intro c hc
  have := num_signs z c hc
  simp only [List.mem_cons, List.not_mem_nil, or_false]
  omega
theorem esc_nil : esc [] = [] := rfl
theorem esc_cons (c : Nat) (r : List Nat) : esc (c :: r) = esc1 c ++ esc r := by unfold esc; rw [List.flatMap_cons]
/-- escaping, read back -/
theorem elQ_esc_back (l rest : List Nat) : elQ (esc l ++ 34 :: rest) = some (l, (esc l).length) := by
  induction l with
  | nil => rw [esc_nil, List.nil_append, elQ_quote]; rfl
  | cons c r ih =>
    rw [esc_cons, List.append_assoc]
    unfold esc1
    by_cases h1 : c = 92
    · rw [if_pos h1]
      show elQ (92 :: c :: (esc r ++ 34 :: rest)) = _
      rw [elQ_esc, ih]; simp
    · rw [if_neg h1]
      by_cases h2 : c = 34
      · rw [if_pos h2]
        show elQ (92 :: c :: (esc r ++ 34 :: rest)) = _
        rw [elQ_esc, ih]; simp
      · rw [if_neg h2]
        show elQ (c :: (esc r ++ 34 :: rest)) = _
        rw [elQ_other _ h2 h1, ih]; simp
theorem esc_plain {l : List Nat} (h : 92 ∉ esc l) : esc l = l ∧ ∀ c ∈ l, c ≠ 92 ∧ c ≠ 34 := by
  induction l with
  | nil => exact ⟨rfl, fun _ q => nomatch q⟩
  | cons c r ih =>
    rw [esc_cons] at h ⊢
    have h1 : 92 ∉ esc1 c := fun q => h (List.mem_append_left _ q)
    obtain ⟨e, k⟩ := ih fun q => h (List.mem_append_right _ q)
    have hc : c ≠ 92 := fun q => h1 (by unfold esc1; rw [if_pos q]; exact .head _)
    have hc2 : c ≠ 34 := fun q => h1 (by unfold esc1; rw [if_neg hc, if_pos q]; exact .head _)
    refine ⟨by rw [e]; unfold esc1; rw [if_neg hc, if_neg hc2]; rfl, fun d hd => ?_⟩
    rcases List.mem_cons.mp hd with rfl | hd
    · exact ⟨hc, hc2⟩
    · exact k d hd
def It.Sg : It → Prop
  | .txt l => ∀ c ∈ l, c ∈ lawSigns
  | _ => True
/-- what an item is read as -/
def It.read : It → Option (List Nat)
  | .non => none
  | .int z => some (num z)
  | .txt l => some l
def readV (r : Option (List Nat)) (t : Tok) : Value := match r with
  | none => .none
  | some l => .str (T l) t
theorem stop_of {c : Nat} {rest : List Nat} (hc : c = 44 ∨ c = 125) : ∀ d r, c :: rest = d :: r → isStopU d = true := by
  intro d r e
  cases e
  rcases hc with rfl | rfl <;> decide
theorem elem_item (w : World) (x : It) (hok : x.Ok) (hsg : x.Sg) (l : List Nat) (tx : Tok) (i : Nat) (z : Int) (hz : z = i) (ti : Tok) (c : Nat) (rest : List Nat) (hl : l.drop i = x.out ++ c :: rest) (hc : c = 44 ∨ c = 125) :
    Spc w 182 [.str (T l) tx, .int z ti] 1 8 (fun _ => l.length < 2^18) (fun h v h' => ∃ a t1 t2, v = .ref a ∧ TupIs h a [readV x.read t1, .int ((i + x.out.length : Nat) : Int) t2] h') := by
  cases x with
  | non => exact elemU_spc w l tx i z hz ti [78, 85, 76, 76] (c :: rest) [78, 85, 76, 76] hl (by decide) (by decide) (stop_of hc) (by rw [up_of (by decide)]; rfl) (by decide)
  | int n =>
    have h := elemU_spc w l tx i z hz ti (num n) (c :: rest) (num n) hl (num_ne n) (fun d hd => ?_) (stop_of hc) (by
        rw [up_of fun d hd => (dig_plain d (num_mem n d hd)).2.2.2.2.1]
        congr 1
        rw [List.map_congr_left (g := fun c => c) fun d hd => (dig_plain d (num_mem n d hd)).2.2.2.1, List.map_id']) (num_ne n)
    · have hne : num n ≠ [78, 85, 76, 76] := fun q => (dig_plain 78 (num_mem n 78 (by rw [q]; exact .head _))).2.2.2.2.2 rfl
      simp only [hne, if_false] at h
      exact h
    · have := dig_plain d (num_mem n d hd)
      exact ⟨this.1, this.2.1, this.2.2.1⟩
  | txt s =>
    have hsg : ∀ c ∈ s, c ∈ lawSigns := hsg
    have hl : l.drop i = aseOut s ++ c :: rest := hl
    cases hq : needQ (esc s) with
    | true =>
      rw [out_q rfl hq] at hl
      have hi : l[i]? = some 34 := by
        have : (l.drop i)[0]? = some 34 := by rw [hl]; rfl
        simpa using this
      have hd : l.drop (i + 1) = esc s ++ 34 :: (c :: rest) := by
        rw [← List.drop_drop, hl]
        simp
      have h := elemQ_spc w l tx i z hz ti s (esc s).length hi (by rw [hd]; exact elQ_esc_back s _)
      have e : (It.txt s).out.length = 1 + (esc s).length + 1 := by
        show (aseOut s).length = _
        rw [out_q rfl hq]; simp; omega
      rw [e, show i + (1 + (esc s).length + 1) = i + 1 + (esc s).length + 1 by omega]
      exact h
    | false =>
      rw [out_n rfl hq] at hl
      have hq' := hq
      unfold needQ at hq'
      simp only [Bool.or_eq_false_iff] at hq'
      obtain ⟨⟨⟨h1, h2⟩, h3⟩, h4⟩ := hq'
      have hm : ∀ d ∈ [123, 125, 44, 92], d ∉ esc s := fun d hd q => by
        have := List.any_eq_false.mp h4 d hd
        exact this (decide_eq_true q)
      obtain ⟨es, hs2⟩ := esc_plain (hm 92 (by decide))
      have hsp : ∀ d ∈ s, spB d = false := fun d hd => by
        have := List.any_eq_false.mp h3 d (by rw [es]; exact hd)
        simpa using this
      rw [es] at hl h1 h2
      have hne : s ≠ [] := fun q => by rw [q] at h1; exact absurd h1 (by decide)
      have hupn : s.map upS ≠ [78, 85, 76, 76] := fun q => by
        cases s with
        | nil => exact hne rfl
        | cons a r => 
          rw [List.map_cons] at q
          exact law_up a (hsg a (.head _)) (List.cons.inj q).1
      have h := elemU_spc w l tx i z hz ti s (c :: rest) (s.map upS) hl hne (fun d hd => by
        have p := law_plain d (hsg d hd) (hs2 d hd).2 (hs2 d hd).1 (fun q => hm 44 (by decide) (by rw [es, ← q]; exact hd)) (hsp d hd)
        exact ⟨p.1, (hs2 d hd).1, p.2⟩) (stop_of hc) (up_of fun d hd => List.mem_append_left _ (hsg d hd)) (by simpa using hne)
      simp only [hupn, if_false] at h
      have e : (It.txt s).out.length = s.length := by
        show (aseOut s).length = _
        rw [out_n rfl hq, es]
      rw [e]
      exact h
end PartQ1_
section PartQ2_
open Builtin Builtin.Str
set_option maxRecDepth 100000
set_option maxHeartbeats 4000000
theorem num_head (z : Int) : ∃ c r, num z = c :: r ∧ c ∈ [45, 48, 49, 50, 51, 52, 53, 54, 55, 56, 57] := by
  cases h : num z with
  | nil => exact absurd h (num_ne z)
  | cons c r => exact ⟨c, r, rfl, num_mem z c (by rw [h]; exact .head _)⟩
theorem dig_head : ∀ c ∈ [45, 48, 49, 50, 51, 52, 53, 54, 55, 56, 57], c ≠ 123 ∧ c ≠ 125 ∧ isB c = false := by decide +kernel
theorem law_head : ∀ c ∈ lawSigns, c ≠ 34 → c ≠ 92 → c ≠ 44 → spB c = false → c ≠ 123 ∧ c ≠ 125 ∧ isB c = false := by decide +kernel
theorem out_head {x : It} (hsg : x.Sg) : ∃ c r, x.out = c :: r ∧ c ≠ 123 ∧ c ≠ 125 ∧ isB c = false := by
  cases x with
  | non => exact ⟨78, [85, 76, 76], rfl, by decide, by decide, by decide⟩
  | int z =>
    obtain ⟨c, r, e, h⟩ := num_head z
    exact ⟨c, r, e, dig_head c h⟩
  | txt s =>
    have hsg : ∀ c ∈ s, c ∈ lawSigns := hsg
    cases hq : needQ (esc s) with
    | true => exact ⟨34, esc s ++ [34], by show aseOut s = _; rw [out_q rfl hq]; rfl, by decide, by decide, by decide⟩
    | false =>
      have hq' := hq
      unfold needQ at hq'
      simp only [Bool.or_eq_false_iff] at hq'
      obtain ⟨⟨⟨h1, h2⟩, h3⟩, h4⟩ := hq'
      have hm : ∀ d ∈ [123, 125, 44, 92], d ∉ esc s := fun d hd q => by
        have := List.any_eq_false.mp h4 d hd
        exact this (decide_eq_true q)
      obtain ⟨es, hs2⟩ := esc_plain (hm 92 (by decide))
      cases s with
      | nil => exact absurd h1 (by decide)
      | cons a r =>
        refine ⟨a, r, by show aseOut (a :: r) = _; rw [out_n rfl hq, es], ?_⟩
        have hsp : spB a = false := by
          have := List.any_eq_false.mp h3 a (by rw [es]; exact .head _)
          simpa using this
        exact law_head a (hsg a (.head _)) (hs2 a (.head _)).2 (hs2 a (.head _)).1 (fun q => hm 44 (by decide) (by rw [es, ← q]; exact .head _)) hsp
def tailOf (xs : List It) : List Nat := inter [44] (xs.map It.out) ++ [125]
theorem tail_nil : tailOf [] = [125] := rfl
theorem tail_one (x : It) : tailOf [x] = x.out ++ 125 :: [] := rfl
theorem tail_more (x y : It) (r : List It) : tailOf (x :: y :: r) = x.out ++ 44 :: tailOf (y :: r) := by
  unfold tailOf
  show (x.out ++ [44] ++ inter [44] ((y :: r).map It.out)) ++ [125] = _
  simp
theorem aoOut_tail (xs : List It) : aoOut xs = 123 :: tailOf xs := by
  unfold aoOut tailOf
  simp
theorem drop_len {α : Type} {l a b : List α} {i : Nat} (h : l.drop i = a ++ b) : l.drop (i + a.length) = b := by
  rw [← List.drop_drop, h, List.drop_left']
  rfl
theorem get_drop {l : List Nat} {i c : Nat} {r : List Nat} (h : l.drop i = c :: r) : l[i]? = some c := by
  have : (l.drop i)[0]? = some c := by rw [h]; rfl
  simpa using this
/-- the values of a list read back -/
def Rds (vs : List Value) (rs : List (Option (List Nat))) : Prop := vs.length = rs.length ∧ ∀ (i : Nat) (v : Value) (r : Option (List Nat)), vs[i]? = some v → rs[i]? = some r → ∃ t, v = readV r t
theorem Rds.nil : Rds [] [] := ⟨rfl, fun _ _ _ h => by cases h⟩
theorem Rds.snoc {vs : List Value} {rs : List (Option (List Nat))} {r : Option (List Nat)} (h : Rds vs rs) (t : Tok) : Rds (vs ++ [readV r t]) (rs ++ [r]) := by
  refine ⟨by rw [List.length_append, List.length_append, h.1]; rfl, fun i v' r' h1 h2 => ?_⟩
  rcases Nat.lt_trichotomy i vs.length with hi | hi | hi
  · rw [List.getElem?_append_left hi] at h1
    rw [List.getElem?_append_left (h.1 ▸ hi)] at h2
    exact h.2 i v' r' h1 h2
  · subst hi
    rw [List.getElem?_append_right (Nat.le_refl _), Nat.sub_self] at h1
    rw [h.1, List.getElem?_append_right (Nat.le_refl _), Nat.sub_self] at h2
    cases h1; cases h2; exact ⟨t, rfl⟩
  · rw [List.getElem?_eq_none (by rw [List.length_append]; exact hi)] at h1
    cases h1
theorem news_new {h₀ h h' : Heap} {L a : Addr} {m : Str → Option Value} {o : Obj} {news : List (Addr × Obj)} (F : Fr h₀ L h m) (N' : News h₀ L h' news) (hn : h.get? a = none) (ho : h'.get? a = some o) : News h₀ L h' ((a, o) :: news) := by
  intro q hq
  rcases List.mem_cons.mp hq with rfl | hq
  · refine ⟨ho, fun e => ?_, ?_⟩
    · obtain ⟨o', _, _, e', _⟩ := F.ns
      have e : a = L := e
      rw [← e, hn] at e'; cases e'
    · cases e : h₀.get? a with
      | none => rfl
      | some o' => have := F.keep _ _ e; rw [hn] at this; cases this
  · exact N' q hq
theorem ne_new {h₀ h : Heap} {L a b : Addr} {o : Obj} {news : List (Addr × Obj)} (N : News h₀ L h news) (hm : (b, o) ∈ news) (hn : h.get? a = none) : (@Ne Nat b a) ∧ (@Ne Nat a b) := by
  have e := (N _ hm).1
  constructor
  · intro q; rw [← q, e] at hn; cases hn
  · intro q; rw [q, e] at hn; cases hn
end PartQ2_
section PartV4_
local macro_rules | `(tactic| walk_at "call ref") => `(tactic| refine Stop.mk ?_)
theorem anew_V4 : True := by
  w_top off
  exact trivial
structure LS where
  (z : Int) (tj : Tok) (vs : Array Value) (n : Nat) (la : Addr) (j k : Nat)
theorem list_spc (w : World) (xs : List It) (hok : ∀ x ∈ xs, x.Ok) (hsg : ∀ x ∈ xs, x.Sg) (hlen : xs.length ≤ 4) (tx t0 : Tok) :
    Spc w 189 [.str (T (aoOut xs)) tx, .int 0 t0] 3 40 (fun _ => True) (fun h v h' => ∃ a b vs n t, v = .ref a ∧ TupIs h a [.ref b, .int ((aoOut xs).length : Nat) t] h' ∧ h.get? b = none ∧ h'.get? b = some (W.listOf vs n) ∧ Rds vs.toList (xs.map It.read)) := by
  refine Spc.intro [("text", .str (T (aoOut xs)) tx), ("at", .int 0 t0)] (by k_is) (by k_is) rfl (locs rfl) rfl rfl rfl (by decide) ?_
  intro p loose mean mg mb dp un gd outer A₀ base h₀ L s B F N X Tp hd hu hx
  have hl := aoOut_len hok hlen
  have hl0 := aoOut_tail xs
  generalize aoOut xs = l at *
  have hx' : (T l).length < 2^24 := by rw [T_len]; omega
  walk_at "mine go"
  unfold Stop
  refine Spc.use1 (blanks_spc w l tx 1 _ rfl _) (by walk_at "mine g") (by walk_at "mine g") (by omega) ?_
  rintro v h' tk' F' N' ⟨t, rfl⟩
  have hb1 : blanks l 1 = 1 := by
    cases xs with
    | nil => exact blanks_stop (c := 125) (by rw [hl0]; rfl) (by decide)
    | cons x r =>
      obtain ⟨c, r', e, _, _, hc⟩ := out_head (hsg x (.head _))
      refine blanks_stop (c := c) ?_ hc
      rw [hl0]
      cases r with
      | nil => rw [tail_one, e]; rfl
      | cons y r => rw [tail_more, e]; rfl
  rw [hb1]
  walk_at "mine go"
  unfold Stop
  rename Fr _ _ _ _ => F; rename News _ _ _ _ => N
  replace N := newsTail N
  refine' While_of (σ := LS) (fun c => [("text", .str (T l) tx), ("found", .ref c.la), ("at", .int c.z c.tj)]) (fun c => [(c.la, W.listOf c.vs c.n)]) (fun c => (xs.length - c.k))
    (fun c => c.z = c.j ∧ c.k ≤ xs.length ∧ Rds c.vs.toList ((xs.take c.k).map It.read) ∧ l.drop c.j = tailOf (xs.drop c.k)) ⟨_, _, _, _, _, 1, 0⟩ F N ?h0 ?p0 ?turn
  case h0 => walk_at "mine pins"
  case p0 => exact ⟨rfl, Nat.zero_le _, Rds.nil, by rw [hl0]; rfl⟩
  case turn =>
    rintro ⟨z, tj, vs, n, la, j, k⟩ u h₁ tk₁ ⟨hz, hk, hr, hj⟩ F₁ N₁
    dsimp only at hz hk hr hj F₁ N₁ ⊢
    subst hz
    clear F N
    have hv' : vs.size < 2^21 := by have := hr.1; simp at this; omega
    rcases Nat.lt_or_ge k xs.length with hkl | hkl
    · obtain ⟨x, hx1⟩ : ∃ x, xs[k]? = some x := ⟨_, List.getElem?_eq_getElem hkl⟩
      have hd1 : xs.drop k = x :: xs.drop (k + 1) := by
        obtain ⟨h1, h2⟩ := List.getElem?_eq_some_iff.mp hx1
        rw [← h2]; exact List.drop_eq_getElem_cons h1
      have hxm : x ∈ xs := List.mem_of_getElem? hx1
      obtain ⟨c, r', e, hc1, hc2, hc3⟩ := out_head (hsg x hxm)
      obtain ⟨d, rest, hjd, hdd, hrest⟩ : ∃ d rest, l.drop j = x.out ++ d :: rest ∧ ((d = 44 ∧ k + 1 < xs.length ∧ rest = tailOf (xs.drop (k + 1))) ∨ (d = 125 ∧ k + 1 = xs.length ∧ rest = [])) ∧ (d = 44 ∨ d = 125) := by
        rw [hj, hd1]
        cases hr2 : xs.drop (k + 1) with
        | nil =>
          refine ⟨125, [], tail_one x, .inr ⟨rfl, ?_, rfl⟩, .inr rfl⟩
          have := congrArg List.length hr2
          simp at this; omega
        | cons y r2 =>
          refine ⟨44, tailOf (y :: r2), tail_more x y r2, .inl ⟨rfl, ?_, rfl⟩, .inl rfl⟩
          have := congrArg List.length hr2
          simp at this; omega
      have hjc : l.drop j = c :: (r' ++ d :: rest) := by rw [hjd, e]; rfl
      have hlj := get_drop hjc
      have hs1 : (l.drop j).take 1 = [c] := by rw [hjc]; rfl
      have hjlen : j < l.length := (List.getElem?_eq_some_iff.mp hlj).1
      have hany : ([T [125], T []].any fun x => x == T [c]) = false := by
        simp only [List.any_cons, List.any_nil, Bool.or_false, T_beq]
        simp; exact fun q => hc2 q.symm
      have hb123 : ([c] == [123]) = false := by simp [hc1]
      walk_at "mine go"
      unfold Stop
      rename Fr _ _ _ _ => Fo; rename News _ _ _ _ => No
      refine Spc.use1 (elem_item w x (hok x hxm) (hsg x hxm) l tx j _ rfl _ d rest hjd hrest) (by walk_at "mine g") (by walk_at "mine g") (by omega) ?_
      rintro v h' tk' F' N' ⟨a, t1, t2, rfl, ht1, ht2⟩
      have N3 := news_new Fo (newsTail N') ht1 ht2
      obtain ⟨ne1, ne2⟩ := ne_new (newsTail No) (.head _) ht1
      clear N' No Fo
      have hjo := drop_len hjd
      have hdj : l[j + x.out.length]? = some d := get_drop hjo
      have hs2 : (l.drop (j + x.out.length)).take 1 = [d] := by rw [hjo]; rfl
      have hdb : isB d = false := by rcases hrest with rfl | rfl <;> decide
      have hbl := blanks_stop hdj hdb
      have hjl2 : j + x.out.length < l.length := (List.getElem?_eq_some_iff.mp hdj).1
      walk_at "mine go"
      unfold Stop
      refine Spc.use1 (blanks_spc w l tx (j + x.out.length) _ rfl _) (by walk_at "mine g") (by walk_at "mine g") (by omega) ?_
      rintro v h2 tk2 F2 N2 ⟨t, rfl⟩
      rw [hbl]
      rcases hdd with ⟨rfl, hk1, rfl⟩ | ⟨rfl, hk1, rfl⟩
      · have hjo2 : l.drop (j + x.out.length + 1) = tailOf (xs.drop (k + 1)) := by
          rw [← List.drop_drop, hjo]; rfl
        obtain ⟨y, hy⟩ : ∃ y, xs[k + 1]? = some y := ⟨_, List.getElem?_eq_getElem hk1⟩
        obtain ⟨c2, r2, e2, hy1, hy2, hy3⟩ := out_head (hsg y (List.mem_of_getElem? hy))
        have hd2 : xs.drop (k + 1) = y :: xs.drop (k + 2) := by
          obtain ⟨h1, h2⟩ := List.getElem?_eq_some_iff.mp hy
          rw [← h2]; exact List.drop_eq_getElem_cons h1
        obtain ⟨r3, hr3⟩ : ∃ r3, tailOf (xs.drop (k + 1)) = c2 :: r3 := by
          rw [hd2]
          cases xs.drop (k + 2) with
          | nil => exact ⟨_, by rw [tail_one, e2]; rfl⟩
          | cons z zs => exact ⟨_, by rw [tail_more, e2]; rfl⟩
        have hc2j : l[j + x.out.length + 1]? = some c2 := get_drop (hjo2.trans hr3)
        have hs3 : (l.drop (j + x.out.length + 1)).take 1 = [c2] := by rw [hjo2, hr3]; rfl
        have hbl2 := blanks_stop hc2j hy3
        have hb1 : (([44] : List Nat) == [44]) = true := rfl
        have hb2 : ([c2] == [125]) = false := by simp [hy2]
        have hjl3 : j + x.out.length + 1 < l.length := (List.getElem?_eq_some_iff.mp hc2j).1
        walk_at "mine go"
        unfold Stop
        refine Spc.use1 (blanks_spc w l tx (j + x.out.length + 1) _ rfl _) (by walk_at "mine g") (by walk_at "mine g") (by omega) ?_
        rintro v h4 tk4 F4 N4 ⟨t, rfl⟩
        rw [hbl2]
        walk_at "mine go"
        dsimp only
        (rename Fr _ _ _ _ => F'); (rename News _ _ _ _ => N')
        refine' TurnEnd.mk ⟨_, _, _, _, la, j + x.out.length + 1, k + 1⟩ F' (newsTail N') ?hm1 ?pp1 ?mu1
        case hm1 => walk_at "mine pins"
        case mu1 => dsimp only; omega
        case pp1 =>
          refine ⟨rfl, hkl, ?_, hjo2⟩
          dsimp only
          rw [List.take_add_one, hx1, List.map_append]
          have := hr.snoc (r := x.read) t1
          simpa [Array.toList_push, List.concat_eq_append] using this
      · have hb1 : (([125] : List Nat) == [44]) = false := rfl
        have hb2 : (([125] : List Nat) != [125]) = false := rfl
        have hjo2 : l.drop (j + x.out.length) = tailOf (xs.drop (k + 1)) := by rw [hjo, hk1, List.drop_length]; rfl
        walk_at "mine go"
        dsimp only
        (rename Fr _ _ _ _ => F'); (rename News _ _ _ _ => N')
        refine' TurnEnd.mk ⟨_, _, _, _, la, j + x.out.length, k + 1⟩ F' (newsTail N') ?hm2 ?pp2 ?mu2
        case hm2 => walk_at "mine pins"
        case mu2 => dsimp only; omega
        case pp2 =>
          refine ⟨rfl, hkl, ?_, hjo2⟩
          dsimp only
          rw [List.take_add_one, hx1, List.map_append]
          have := hr.snoc (r := x.read) t1
          simpa [Array.toList_push, List.concat_eq_append] using this
    · have hkn : k = xs.length := Nat.le_antisymm hk hkl
      subst hkn
      rw [List.drop_length, tail_nil] at hj
      have hs1 : (l.drop j).take 1 = [125] := by rw [hj]; rfl
      have hany : ([T [125], T []].any fun x => x == T [125]) = true := by simp
      have hjl := (List.getElem?_eq_some_iff.mp (get_drop hj)).1
      walk_at "mine go"
      (rename News _ _ _ _ => N')
      have hll : l.length = j + 1 := by
        have := congrArg List.length hj
        rw [List.length_drop] at this
        simp at this; omega
      have e4 : ((l.length : Nat) : Int) = (j : Int) + 1 := by omega
      refine Back.mk (by with_reducible assumption) ?_
      rw [e4]
      rw [List.take_length] at hr
      exact ⟨_, la, vs, n, _, rfl, ⟨(N' _ (.head _)).2.2, (N' _ (.head _)).1⟩, (N' _ (.tail _ (.tail _ (.head _)))).2.2, (N' _ (.tail _ (.tail _ (.head _)))).1, hr⟩
end PartV4_
section PartQ3_
open Builtin Builtin.Str StrLaws
set_option maxRecDepth 100000
set_option maxHeartbeats 4000000
theorem occ_none_body (s sub : Str) (hi limit : Nat) (h : ∀ i, ¬(i + sub.length ≤ hi ∧ subAt s sub i = true)) : ∀ (is : List Nat) (st : Array Nat × Nat), (forIn is st (occBody s sub hi limit)).run.fst = st.fst
  | [], st => rfl
  | a :: is, st => by
    rw [List.forIn_cons]
    unfold occBody
    split
    · rename_i hc
      exact absurd ⟨hc.1.2, hc.2⟩ (h a)
    · exact occ_none_body s sub hi limit h is _
theorem occ_full_body (s sub : Str) (hi limit : Nat) : ∀ (is : List Nat) (st : Array Nat × Nat), limit ≤ st.fst.size → (forIn is st (occBody s sub hi limit)).run.fst = st.fst
  | [], st, _ => rfl
  | a :: is, st, h => by
    rw [List.forIn_cons]
    unfold occBody
    split
    · rename_i hc
      have := hc.1.1.1
      omega
    · exact occ_full_body s sub hi limit is _ h
theorem occ1_none {c : Nat} {l : List Nat} (h : c ∉ l) : occurrences (T l) (T [c]) 0 (T l).length 1 = [] := by
  rw [occ_eq, occ_none_body]
  intro i hi
  have := (subAt_one (T l) c i).mp hi
  rw [T_list] at this
  exact h (List.mem_of_getElem? this)
theorem occ1_head {c : Nat} {r : List Nat} : occurrences (T (c :: r)) (T [c]) 0 (T (c :: r)).length 1 = [0] := by
  rw [occ_eq, T_len, List.length_cons, show r.length + 1 + 1 - 0 = (r.length + 1) + 1 by omega, List.range'_succ, List.forIn_cons]
  have h0 := (subAt_one (T (c :: r)) c 0).mpr (by rw [T_list]; rfl)
  have hb : occBody (T (c :: r)) (T [c]) (r.length + 1) 1 0 (#[], 0) = pure (ForInStep.yield (#[0], 0 + (T [c]).length)) := by
    unfold occBody
    rw [T_len, List.length_cons] at h0
    rw [if_pos ⟨⟨⟨by simp, by simp⟩, h0.1⟩, h0.2⟩]; rfl
  rw [hb]
  show (forIn _ (#[0], 0 + (T [c]).length) (occBody (T (c :: r)) (T [c]) (r.length + 1) 1)).run.fst.toList = [0]
  rw [occ_full_body _ _ _ _ _ _ (by simp)]
theorem gives_replace1 (x y z : Str) (t u v tc : Tok)
    (hf : ((occurrences x y 0 x.length 1).isEmpty || (y.length == 0 && z.length == 0)) = false →
      (u == 0 || v == 0) = false ∧ (u == v) = false ∧ (y == z) = false ∧ tooLong (x.length + (occurrences x y 0 x.length 1).length * z.length) = false) :
    Gives («str.replace» ⟨[.str x t, .str y u, .str z v, .int 1 tc], []⟩) (if ((occurrences x y 0 x.length 1).isEmpty || (y.length == 0 && z.length == 0)) = true then .val (.str x t) else .str (glued z (partsBetween x (occurrences x y 0 x.length 1) y.length))) := by
  have e : «str.replace» ⟨[.str x t, .str y u, .str z v, .int 1 tc], []⟩ = (do
      let limit ← countLimit "str.replace" (some (.int 1 tc)) (x.length + 1)
      if ((occurrences x y 0 x.length limit).isEmpty || (y.length == 0 && z.length == 0)) = true then (do rule "str.replace.nothing"; ret (.str x t)) else
          (do let same ← isSame (.str y u) (.str z v)
              if same = true then (do rule "str.replace.old-is-new"; ret (.str x t)) else
              if tooLong (x.length + (occurrences x y 0 x.length limit).length * z.length) = true then unsupported "str.replace:memory" else
              retStr (glued z (partsBetween x (occurrences x y 0 x.length limit) y.length)))) := rfl
  rw [e, countLimit_int "str.replace" 1 tc (x.length + 1) (by decide)]
  show Gives (if ((occurrences x y 0 x.length 1).isEmpty || (y.length == 0 && z.length == 0)) = true then (do rule "str.replace.nothing"; ret (.str x t)) else
          (do let same ← isSame (.str y u) (.str z v)
              if same = true then (do rule "str.replace.old-is-new"; ret (.str x t)) else
              if tooLong (x.length + (occurrences x y 0 x.length 1).length * z.length) = true then unsupported "str.replace:memory" else
              retStr (glued z (partsBetween x (occurrences x y 0 x.length 1) y.length)))) _
  cases hc : ((occurrences x y 0 x.length 1).isEmpty || (y.length == 0 && z.length == 0))
  · obtain ⟨h0, huv, hyz, hl⟩ := hf hc
    rw [isSame_str_other y z u v h0 huv hyz, hl]
    exact .of_eq rfl
  · exact .rule (.of_eq rfl)
section
variable {prog : Program} {w : World} {A : Around} {E : Value → Shared → Prop} {s : Shared} {Q : Value → Shared → Prop}
/-- the sign of a number, cut -/
theorem r_cut {z : Int} {t u v tc : Tok} (h1 : -(10 ^ 20) < z) (h2 : z < 10 ^ 20) (hu : u ≠ 0) (hv : v ≠ 0) (huv : u ≠ v) (h : ∀ n t' k, Q (.str (T (dig n)) t') { s with toks := k }) :
    wpAny (model prog w) A (call (.builtin "str.replace") [.str (T (num z)) t, .str (T [45]) u, .str (T []) v, .int 1 tc]) Q E s := by
  refine call_gives F.slot_str_replace (typeIs_str _ _ _) F.entry_str_replace (F.args_str_replace_4 _ _ _ _)
    (gives_replace1 (T (num z)) (T [45]) (T []) t u v tc fun _ => ⟨by simp [hu, hv], by simp [huv], by rw [T_beq]; rfl, ?_⟩) ?_
  · have := num_len h1 h2
    unfold tooLong
    rw [sizeLine_eq]
    refine decide_eq_false ?_
    rw [T_len, T_len]
    simp
    omega
  · cases z with
    | ofNat n =>
      have hn : 45 ∉ num (.ofNat n) := fun q => by have := dig_digits n 45 q; omega
      rw [occ1_none hn]
      exact h n t s.toks
    | negSucc n =>
      have e : num (.negSucc n) = 45 :: dig (n + 1) := rfl
      rw [e, occ1_head]
      have eg : glued (T []) (partsBetween (T (45 :: dig (n + 1))) [0] (T [45]).length) = T (dig (n + 1)) := by
        refine signs_T ?_
        rw [StrLaws.glued_eq_join]
        unfold partsBetween strSub
        simp [T, Str.join, Str.length]
        show (T [] ++ T [] ++ T (dig (n + 1))).cps.toList = _
        rw [T_append, T_append, T_list]; rfl
      simp only [List.isEmpty_cons, Bool.false_or]
      rw [if_neg (by simp)]
      rw [eg]
      have := dig_len (n := n + 1) (by have h3 : (Int.negSucc n) = -((n : Int) + 1) := rfl; omega)
      refine ⟨?_, h (n + 1) _ _⟩
      rw [T_len]; rw [sizeLine_eq]; omega
theorem dig_isdigit : ∀ c ∈ [48, 49, 50, 51, 52, 53, 54, 55, 56, 57], Unicode.isDigit c = true := by decide +kernel
theorem isdigit_dig (n : Nat) : Txt.isdigit (T (dig n)) = true := by
  unfold Txt.isdigit
  have hl : 0 < (dig n).length := by
    cases h : dig n with
    | nil => exact absurd h (dig_ne n)
    | cons => simp
  simp only [T_len, Bool.and_eq_true, decide_eq_true_eq]
  refine ⟨hl, ?_⟩
  rw [← Array.all_toList, T_list, List.all_eq_true]
  intro c hc
  have := dig_digits n c hc
  refine dig_isdigit c ?_
  simp only [List.mem_cons, List.not_mem_nil, or_false]
  omega
end
/-- a quoted text, read back -/
theorem unq_dbl (q : Nat) (l rest : List Nat) (h : rest.take 1 ≠ [q]) : unq q (dbl q l ++ q :: rest) = (l, (dbl q l).length) := by
  induction l with
  | nil =>
    show unq q (q :: rest) = _
    exact unq_stop h
  | cons c r ih =>
    by_cases hc : c = q
    · subst hc
      have e : dbl c (c :: r) = c :: c :: dbl c r := by show (if c = c then _ else _) = _; rw [if_pos rfl]
      rw [e]
      show unq c (c :: c :: (dbl c r ++ c :: rest)) = _
      rw [unq_double, ih]; simp
    · have e : dbl q (c :: r) = c :: dbl q r := by show (if c = q then _ else _) = _; rw [if_neg hc]
      rw [e]
      show unq q (c :: (dbl q r ++ q :: rest)) = _
      rw [unq_other hc, ih]; simp
section
variable {prog : Program} {w : World} {A : Around} {E : Value → Shared → Prop} {s : Shared} {h₀ : Heap} {L : Addr} {m : Str → Option Value} {news : List (Addr × Obj)} {value slice : Expr} {Q : Value → Shared → Prop}
/-- a slice from place to place -/
theorem r_sliceN {l y : List Nat} {a b : Nat} {i j : Int} {t ui uj : Tok} (hi : i = a) (hj : j = b) (hab : a ≤ b) (hb : b ≤ l.length) (hy : (l.drop a).take (b - a) = y) (hl : (T l).length < 2 ^ 24)
    (F : Fr h₀ L s.heap m) (N : News h₀ L s.heap news) (hQ : ∀ h' t' k, Fr h₀ L h' m → News h₀ L h' news → Q (.str (T y) t') { s with heap := h', toks := k })
    (hs : subscripted slice false (.str (T l) t) (.ref s.heap.objs.size) = operate [.ref s.heap.objs.size, .str (T l) t] (getItem (.str (T l) t) (.ref s.heap.objs.size)) := by with_unfolding_all rfl)
    (ht : ∀ r, letTemporaryGo value (.str (T l) t) r = pure () := by intro _; with_unfolding_all rfl) :
    wpAny (model prog w) A (subscriptTail value slice (.str (T l) t) (.ref s.heap.objs.size)) Q E { s with heap := s.heap.push { cls := .type "slice", data := .fields #[.int i ui, .int j uj, .none] } } := by
  subst hi hj hy
  refine slice_strN_ss F N (fun h' t' k' F' N' => ?_) hs ht (by rw [sizeLine_eq]; omega)
  rw [slice_T l hab hb]
  exact hQ h' t' k' F' N'
end
end PartQ3_
section PartV5_
local macro_rules | `(tactic| walk_at "call ref") => `(tactic| refine Stop.mk ?_)
theorem anew_V5 : True := by
  w_top off
  exact trivial
local macro_rules | `(tactic| walk_at "exec If") => `(tactic| refine wpAny_If ?_)
local macro_rules | `(tactic| walk_at "execs nil") => `(tactic| refine wpAny_execs_nil ?_)
local macro_rules | `(tactic| walk_at "execs cons") => `(tactic| ((with_reducible refine wpAny_execs_cons ?_); try dsimp only))
theorem read_txt (w : World) (s l rest : List Nat) (i : Nat) (hl : l.drop i = litOut s ++ rest) (hr : rest.take 1 ≠ [39]) (tx ti : Tok) (z : Int) (hz : z = i) :
    Spc w 213 [.str (T l) tx, .int z ti] 3 40 (fun _ => l.length < 2^18) (fun h v h' => ∃ a t1 t2, v = .ref a ∧ TupIs h a [.str (T s) t1, .int ((i + (litOut s).length : Nat) : Int) t2] h') := by
  subst hz
  refine Spc.intro [("text", .str (T l) tx), ("at", .int i ti)] (by k_is) (by k_is) rfl (locs rfl) rfl rfl rfl (by decide) ?_
  intro p loose mean mg mb dp un gd outer A₀ base h₀ L s₀ B F N X Tp hd hu hx
  have hx' : (T l).length < 2^24 := by rw [T_len]; omega
  have hl1 : l.drop i = 39 :: (StrLaws.dbl 39 s ++ 39 :: rest) := by rw [hl]; unfold litOut; simp
  have hs1 : (l.drop i).take 1 = [39] := by rw [hl1]; rfl
  have hb : (([39] : List Nat) == [39]) = true := rfl
  have hil := (List.getElem?_eq_some_iff.mp (get_drop hl1)).1
  have hl2 : l.drop (i + 1) = StrLaws.dbl 39 s ++ 39 :: rest := by rw [← List.drop_drop, hl1]; rfl
  have hq := unq_dbl 39 s rest hr
  walk_at "mine go"
  unfold Stop
  rename Fr _ _ _ _ => Fo
  refine Spc.use1 (quoted_spc w l tx i ti 39 _) (by walk_at "mine g") (by walk_at "mine g") ⟨hx, hil⟩ ?_
  rintro v h' tk' F' N' ⟨a, t1, t2, rfl, ht1, ht2⟩
  rw [hl2, hq] at ht2
  have N3 := news_new Fo N' ht1 ht2
  have e5 : i + 1 + (StrLaws.dbl 39 s).length + 1 = i + (litOut s).length := by unfold litOut; simp; omega
  dsimp only at ht2
  rw [e5] at ht2
  walk_at "mine go"
  exact Back.mk (by with_reducible assumption) ⟨a, t1, t2, rfl, (N3 _ (.head _)).2.2, ht2⟩
def stopR : List Nat := [44, 32, 61, 34, 39]
local macro_rules | `(tactic| walk_at "subscriptTail Name Slice str ref") => `(tactic| ((with_reducible rename Fr _ _ _ _ => F'); (with_reducible rename News _ _ _ _ => N'); first
  | (refine' r_slice1 (s := ⟨_, _, _, _, _⟩) rfl rfl ?y ?l F' N' ?_; (case y => with_reducible assumption); (case l => first | assumption | omega); intro _ _ _ _ _)
  | (refine' r_sliceN (s := ⟨_, _, _, _, _⟩) rfl rfl ?a ?b ?y ?l F' N' ?_; (case y => with_reducible assumption); (case a => assumption); (case b => assumption); (case l => first | assumption | omega); intro _ _ _ _ _)))
theorem num_stop : ∀ c ∈ [45, 48, 49, 50, 51, 52, 53, 54, 55, 56, 57], c ∉ stopR := by decide
theorem num_word (n : Int) (o : List Nat) (ho : o = num n) : ([T [78, 85, 76, 76], T [84, 82, 85, 69], T [70, 65, 76, 83, 69]].any fun x => x == T o) = false := by
  obtain ⟨c, r, e, h⟩ := num_head n
  rw [ho, e]
  simp only [List.any_cons, List.any_nil, Bool.or_false, T_beq]
  have : ∀ c ∈ [45, 48, 49, 50, 51, 52, 53, 54, 55, 56, 57], c ≠ 78 ∧ c ≠ 84 ∧ c ≠ 70 := by decide
  obtain ⟨a1, a2, a3⟩ := this c h
  simp [Ne.symm a1, Ne.symm a2, Ne.symm a3]
structure RS where
  (e : Int) (te : Tok) (j : Nat)
local macro_rules | `(tactic| walk_at "call builtin:str.replace") => `(tactic| (refine' r_cut ?a ?b ?u ?v ?n ?_; (case a => assumption); (case b => assumption); (case u => ((show @Ne Nat _ _); omega)); (case v => ((show @Ne Nat _ _); omega)); (case n => ((show @Ne Nat _ _); omega)); intro _ _ _))
local macro_rules | `(tactic| walk_at "call type:int") => `(tactic| (refine' r_intstr ?a ?b ?_; (case a => assumption); (case b => assumption)))
theorem read_num (w : World) (n : Int) (h1 : -(10 ^ 20) < n) (h2 : n < 10 ^ 20) (l rest : List Nat) (i : Nat) (hl : l.drop i = num n ++ rest) (hr : ∀ c r, rest = c :: r → c ∈ stopR) (tx ti : Tok) (z : Int) (hz : z = i) :
    Spc w 213 [.str (T l) tx, .int z ti] 3 40 (fun _ => l.length < 2^18) (fun h v h' => ∃ a t1 t2, v = .ref a ∧ TupIs h a [.int n t1, .int ((i + (num n).length : Nat) : Int) t2] h') := by
  subst hz
  refine Spc.intro [("text", .str (T l) tx), ("at", .int i ti)] (by k_is) (by k_is) rfl (locs rfl) rfl rfl rfl (by decide) ?_
  intro p loose mean mg mb dp un gd outer A₀ base h₀ L s₀ B F N X Tp hd hu hx
  have hx' : (T l).length < 2^24 := by rw [T_len]; omega
  have hne : num n ≠ [] := num_ne n
  have ho : ∀ c ∈ num n, c ∉ stopR := fun c hc => num_stop c (num_mem n c hc)
  have hone : 0 < (num n).length := by cases hO : num n with
    | nil => exact absurd hO hne
    | cons => simp
  have hll : l.length = i + (num n).length + rest.length := by
    have := congrArg List.length hl
    rw [List.length_drop, List.length_append] at this
    omega
  obtain ⟨c0, r0, hc0⟩ : ∃ c r, num n = c :: r := by cases hO : num n with
    | nil => exact absurd hO hne
    | cons c r => exact ⟨c, r, rfl⟩
  have hs1 : (l.drop i).take 1 = [c0] := by rw [hl, hc0]; rfl
  have hb0 : ([c0] == [39]) = false := by
    have := ho c0 (by rw [hc0]; exact .head _)
    have : c0 ≠ 39 := fun q => this (by rw [q]; decide)
    simp [this]
  walk_at "mine go"
  unfold Stop
  rename News _ _ _ _ => N'; rename Fr _ _ _ _ => F'
  refine' While_of (σ := RS) (fun c => [("text", .str (T l) tx), ("at", .int i ti), ("end", .int c.e c.te)]) (fun _ => []) (fun c => (l.length - c.j)) (fun c => c.e = c.j ∧ i ≤ c.j ∧ c.j ≤ i + (num n).length) ⟨_, _, i⟩ F' N' ?h0 ?p0 ?turn
  case h0 => walk_at "mine pins"
  case p0 => exact ⟨rfl, Nat.le_refl _, Nat.le_add_right _ _⟩
  case turn =>
    rintro ⟨e, te, j⟩ u h₁ tk₁ ⟨he, hj1, hj2⟩ F₁ N₁
    dsimp only at he hj1 hj2 F₁ N₁ ⊢
    subst he
    clear F' N'
    rcases Nat.lt_or_ge j (i + (num n).length) with hjl | hjl
    · have hjl1 : j < l.length := by omega
      have hjl' : (j : Int) < ((T l).length : Int) := by rw [T_len]; omega
      obtain ⟨c, hc⟩ : ∃ c, l[j]? = some c := ⟨l[j], List.getElem?_eq_getElem hjl1⟩
      have hco : c ∈ num n := by
        have h1 : (l.drop i)[j - i]? = some c := by rw [List.getElem?_drop, show i + (j - i) = j by omega]; exact hc
        rw [hl, List.getElem?_append_left (by omega)] at h1
        exact List.mem_of_getElem? h1
      have hcs : (!decide (c ∈ [44, 32, 61, 34, 39])) = true := by rw [decide_eq_false (show ¬ c ∈ [44, 32, 61, 34, 39] from ho c hco)]; rfl
      walk_at "mine go"
      dsimp only
      (rename Fr _ _ _ _ => F'); (rename News _ _ _ _ => N')
      refine' TurnEnd.mk ⟨_, _, j + 1⟩ F' N' ?hm ?pp ?mu
      case hm => walk_at "mine pins"
      case mu => dsimp only; omega
      case pp => exact ⟨rfl, by dsimp only; omega, by dsimp only; omega⟩
    · have hje : j = i + (num n).length := Nat.le_antisymm hj2 hjl
      subst hje
      have hy : (l.drop i).take (i + (num n).length - i) = num n := by rw [hl, Nat.add_sub_cancel_left, List.take_left']; rfl
      have hia : i ≤ i + (num n).length := Nat.le_add_right _ _
      have hib : i + (num n).length ≤ l.length := by omega
      have hw : ([T [78, 85, 76, 76], T [84, 82, 85, 69], T [70, 65, 76, 83, 69]].any fun x => x == T (num n)) = false := num_word n _ rfl
      have hdg := isdigit_dig
      cases rest with
      | nil =>
        have hend : ¬ (((i + (num n).length : Nat) : Int) < ((T l).length : Int)) := by rw [T_len]; simp at hll; omega
        walk_at "mine go"
        (rename News _ _ _ _ => N')
        exact Back.mk (by with_reducible assumption) ⟨_, _, _, rfl, (N' _ (.head _)).2.2, (N' _ (.head _)).1⟩
      | cons c r =>
        have hjl1 : i + (num n).length < l.length := by simp at hll; omega
        have hjl' : ((i + (num n).length : Nat) : Int) < ((T l).length : Int) := by rw [T_len]; omega
        have hc : l[i + (num n).length]? = some c := get_drop (drop_len hl)
        have hcs : (!decide (c ∈ [44, 32, 61, 34, 39])) = false := by rw [decide_eq_true (show c ∈ [44, 32, 61, 34, 39] from hr c r rfl)]; rfl
        walk_at "mine go"
        (rename News _ _ _ _ => N')
        exact Back.mk (by with_reducible assumption) ⟨_, _, _, rfl, (N' _ (.head _)).2.2, (N' _ (.head _)).1⟩
end PartV5_
section PartV6_
local macro_rules | `(tactic| walk_at "call ref") => `(tactic| refine Stop.mk ?_)
theorem anew_V6 : True := by
  w_top off
  exact trivial
local macro_rules | `(tactic| walk_at "exec If") => `(tactic| refine wpAny_If ?_)
local macro_rules | `(tactic| walk_at "execs nil") => `(tactic| refine wpAny_execs_nil ?_)
local macro_rules | `(tactic| walk_at "execs cons") => `(tactic| ((with_reducible refine wpAny_execs_cons ?_); try dsimp only))
local macro_rules | `(tactic| walk_at "subscriptTail Name Slice str ref") => `(tactic| ((with_reducible rename Fr _ _ _ _ => F'); (with_reducible rename News _ _ _ _ => N'); first
  | (refine' r_slice1 (s := ⟨_, _, _, _, _⟩) rfl rfl ?y ?l F' N' ?_; (case y => with_reducible assumption); (case l => first | assumption | omega); intro _ _ _ _ _)
  | (refine' r_sliceN (s := ⟨_, _, _, _, _⟩) rfl rfl ?a ?b ?y ?l F' N' ?_; (case y => with_reducible assumption); (case a => assumption); (case b => assumption); (case l => first | assumption | omega); intro _ _ _ _ _)))
theorem read_null (w : World)  (l rest : List Nat) (i : Nat) (hl : l.drop i = ([78, 85, 76, 76] : List Nat) ++ rest) (hr : ∀ c r, rest = c :: r → c ∈ stopR) (tx ti : Tok) (z : Int) (hz : z = i) :
    Spc w 213 [.str (T l) tx, .int z ti] 3 40 (fun _ => l.length < 2^18) (fun h v h' => ∃ a t2, v = .ref a ∧ TupIs h a [.none, .int ((i + (([78, 85, 76, 76] : List Nat)).length : Nat) : Int) t2] h') := by
  subst hz
  refine Spc.intro [("text", .str (T l) tx), ("at", .int i ti)] (by k_is) (by k_is) rfl (locs rfl) rfl rfl rfl (by decide) ?_
  intro p loose mean mg mb dp un gd outer A₀ base h₀ L s₀ B F N X Tp hd hu hx
  have hx' : (T l).length < 2^24 := by rw [T_len]; omega
  have hne : ([78, 85, 76, 76] : List Nat) ≠ [] := by decide
  have ho : ∀ c ∈ ([78, 85, 76, 76] : List Nat), c ∉ stopR := by decide
  have hone : 0 < (([78, 85, 76, 76] : List Nat)).length := by cases hO : ([78, 85, 76, 76] : List Nat) with
    | nil => exact absurd hO hne
    | cons => simp
  have hll : l.length = i + (([78, 85, 76, 76] : List Nat)).length + rest.length := by
    have := congrArg List.length hl
    rw [List.length_drop, List.length_append] at this
    omega
  obtain ⟨c0, r0, hc0⟩ : ∃ c r, ([78, 85, 76, 76] : List Nat) = c :: r := by cases hO : ([78, 85, 76, 76] : List Nat) with
    | nil => exact absurd hO hne
    | cons c r => exact ⟨c, r, rfl⟩
  have hs1 : (l.drop i).take 1 = [c0] := by rw [hl, hc0]; rfl
  have hb0 : ([c0] == [39]) = false := by
    have := ho c0 (by rw [hc0]; exact .head _)
    have : c0 ≠ 39 := fun q => this (by rw [q]; decide)
    simp [this]
  walk_at "mine go"
  unfold Stop
  rename News _ _ _ _ => N'; rename Fr _ _ _ _ => F'
  refine' While_of (σ := RS) (fun c => [("text", .str (T l) tx), ("at", .int i ti), ("end", .int c.e c.te)]) (fun _ => []) (fun c => (l.length - c.j)) (fun c => c.e = c.j ∧ i ≤ c.j ∧ c.j ≤ i + (([78, 85, 76, 76] : List Nat)).length) ⟨_, _, i⟩ F' N' ?h0 ?p0 ?turn
  case h0 => walk_at "mine pins"
  case p0 => exact ⟨rfl, Nat.le_refl _, Nat.le_add_right _ _⟩
  case turn =>
    rintro ⟨e, te, j⟩ u h₁ tk₁ ⟨he, hj1, hj2⟩ F₁ N₁
    dsimp only at he hj1 hj2 F₁ N₁ ⊢
    subst he
    clear F' N'
    rcases Nat.lt_or_ge j (i + (([78, 85, 76, 76] : List Nat)).length) with hjl | hjl
    · have hjl1 : j < l.length := by omega
      have hjl' : (j : Int) < ((T l).length : Int) := by rw [T_len]; omega
      obtain ⟨c, hc⟩ : ∃ c, l[j]? = some c := ⟨l[j], List.getElem?_eq_getElem hjl1⟩
      have hco : c ∈ ([78, 85, 76, 76] : List Nat) := by
        have h1 : (l.drop i)[j - i]? = some c := by rw [List.getElem?_drop, show i + (j - i) = j by omega]; exact hc
        rw [hl, List.getElem?_append_left (by omega)] at h1
        exact List.mem_of_getElem? h1
      have hcs : (!decide (c ∈ [44, 32, 61, 34, 39])) = true := by rw [decide_eq_false (show ¬ c ∈ [44, 32, 61, 34, 39] from ho c hco)]; rfl
      walk_at "mine go"
      dsimp only
      (rename Fr _ _ _ _ => F'); (rename News _ _ _ _ => N')
      refine' TurnEnd.mk ⟨_, _, j + 1⟩ F' N' ?hm ?pp ?mu
      case hm => walk_at "mine pins"
      case mu => dsimp only; omega
      case pp => exact ⟨rfl, by dsimp only; omega, by dsimp only; omega⟩
    · have hje : j = i + (([78, 85, 76, 76] : List Nat)).length := Nat.le_antisymm hj2 hjl
      subst hje
      have hy : (l.drop i).take (i + (([78, 85, 76, 76] : List Nat)).length - i) = ([78, 85, 76, 76] : List Nat) := by rw [hl, Nat.add_sub_cancel_left, List.take_left']; rfl
      have hia : i ≤ i + (([78, 85, 76, 76] : List Nat)).length := Nat.le_add_right _ _
      have hib : i + (([78, 85, 76, 76] : List Nat)).length ≤ l.length := by omega
      have hw : ([T [78, 85, 76, 76], T [84, 82, 85, 69], T [70, 65, 76, 83, 69]].any fun x => x == T ([78, 85, 76, 76] : List Nat)) = true := by simp only [List.any_cons, List.any_nil, T_beq]; rfl
      cases rest with
      | nil =>
        have hend : ¬ (((i + (([78, 85, 76, 76] : List Nat)).length : Nat) : Int) < ((T l).length : Int)) := by have h0 := hll; rw [List.length_nil, Nat.add_zero] at h0; rw [T_len, h0]; omega
        walk_at "mine go"
        (rename News _ _ _ _ => N')
        exact Back.mk (by with_reducible assumption) ⟨_, _, rfl, (N' _ (.head _)).2.2, (N' _ (.head _)).1⟩
      | cons c r =>
        have hjl1 : i + (([78, 85, 76, 76] : List Nat)).length < l.length := by have h0 : l.length = _ + (r.length + 1) := hll; omega
        have hjl' : ((i + (([78, 85, 76, 76] : List Nat)).length : Nat) : Int) < ((T l).length : Int) := by rw [T_len]; omega
        have hc : l[i + (([78, 85, 76, 76] : List Nat)).length]? = some c := get_drop (drop_len hl)
        have hcs : (!decide (c ∈ [44, 32, 61, 34, 39])) = false := by rw [decide_eq_true (show c ∈ [44, 32, 61, 34, 39] from hr c r rfl)]; rfl
        walk_at "mine go"
        (rename News _ _ _ _ => N')
        exact Back.mk (by with_reducible assumption) ⟨_, _, rfl, (N' _ (.head _)).2.2, (N' _ (.head _)).1⟩
theorem read_true (w : World)  (l rest : List Nat) (i : Nat) (hl : l.drop i = ([84, 82, 85, 69] : List Nat) ++ rest) (hr : ∀ c r, rest = c :: r → c ∈ stopR) (tx ti : Tok) (z : Int) (hz : z = i) :
    Spc w 213 [.str (T l) tx, .int z ti] 3 40 (fun _ => l.length < 2^18) (fun h v h' => ∃ a t2, v = .ref a ∧ TupIs h a [.bool true, .int ((i + (([84, 82, 85, 69] : List Nat)).length : Nat) : Int) t2] h') := by
  subst hz
  refine Spc.intro [("text", .str (T l) tx), ("at", .int i ti)] (by k_is) (by k_is) rfl (locs rfl) rfl rfl rfl (by decide) ?_
  intro p loose mean mg mb dp un gd outer A₀ base h₀ L s₀ B F N X Tp hd hu hx
  have hx' : (T l).length < 2^24 := by rw [T_len]; omega
  have hne : ([84, 82, 85, 69] : List Nat) ≠ [] := by decide
  have ho : ∀ c ∈ ([84, 82, 85, 69] : List Nat), c ∉ stopR := by decide
  have hone : 0 < (([84, 82, 85, 69] : List Nat)).length := by cases hO : ([84, 82, 85, 69] : List Nat) with
    | nil => exact absurd hO hne
    | cons => simp
  have hll : l.length = i + (([84, 82, 85, 69] : List Nat)).length + rest.length := by
    have := congrArg List.length hl
    rw [List.length_drop, List.length_append] at this
    omega
  obtain ⟨c0, r0, hc0⟩ : ∃ c r, ([84, 82, 85, 69] : List Nat) = c :: r := by cases hO : ([84, 82, 85, 69] : List Nat) with
    | nil => exact absurd hO hne
    | cons c r => exact ⟨c, r, rfl⟩
  have hs1 : (l.drop i).take 1 = [c0] := by rw [hl, hc0]; rfl
  have hb0 : ([c0] == [39]) = false := by
    have := ho c0 (by rw [hc0]; exact .head _)
    have : c0 ≠ 39 := fun q => this (by rw [q]; decide)
    simp [this]
  walk_at "mine go"
  unfold Stop
  rename News _ _ _ _ => N'; rename Fr _ _ _ _ => F'
  refine' While_of (σ := RS) (fun c => [("text", .str (T l) tx), ("at", .int i ti), ("end", .int c.e c.te)]) (fun _ => []) (fun c => (l.length - c.j)) (fun c => c.e = c.j ∧ i ≤ c.j ∧ c.j ≤ i + (([84, 82, 85, 69] : List Nat)).length) ⟨_, _, i⟩ F' N' ?h0 ?p0 ?turn
  case h0 => walk_at "mine pins"
  case p0 => exact ⟨rfl, Nat.le_refl _, Nat.le_add_right _ _⟩
  case turn =>
    rintro ⟨e, te, j⟩ u h₁ tk₁ ⟨he, hj1, hj2⟩ F₁ N₁
    dsimp only at he hj1 hj2 F₁ N₁ ⊢
    subst he
    clear F' N'
    rcases Nat.lt_or_ge j (i + (([84, 82, 85, 69] : List Nat)).length) with hjl | hjl
    · have hjl1 : j < l.length := by omega
      have hjl' : (j : Int) < ((T l).length : Int) := by rw [T_len]; omega
      obtain ⟨c, hc⟩ : ∃ c, l[j]? = some c := ⟨l[j], List.getElem?_eq_getElem hjl1⟩
      have hco : c ∈ ([84, 82, 85, 69] : List Nat) := by
        have h1 : (l.drop i)[j - i]? = some c := by rw [List.getElem?_drop, show i + (j - i) = j by omega]; exact hc
        rw [hl, List.getElem?_append_left (by omega)] at h1
        exact List.mem_of_getElem? h1
      have hcs : (!decide (c ∈ [44, 32, 61, 34, 39])) = true := by rw [decide_eq_false (show ¬ c ∈ [44, 32, 61, 34, 39] from ho c hco)]; rfl
      walk_at "mine go"
      dsimp only
      (rename Fr _ _ _ _ => F'); (rename News _ _ _ _ => N')
      refine' TurnEnd.mk ⟨_, _, j + 1⟩ F' N' ?hm ?pp ?mu
      case hm => walk_at "mine pins"
      case mu => dsimp only; omega
      case pp => exact ⟨rfl, by dsimp only; omega, by dsimp only; omega⟩
    · have hje : j = i + (([84, 82, 85, 69] : List Nat)).length := Nat.le_antisymm hj2 hjl
      subst hje
      have hy : (l.drop i).take (i + (([84, 82, 85, 69] : List Nat)).length - i) = ([84, 82, 85, 69] : List Nat) := by rw [hl, Nat.add_sub_cancel_left, List.take_left']; rfl
      have hia : i ≤ i + (([84, 82, 85, 69] : List Nat)).length := Nat.le_add_right _ _
      have hib : i + (([84, 82, 85, 69] : List Nat)).length ≤ l.length := by omega
      have hw : ([T [78, 85, 76, 76], T [84, 82, 85, 69], T [70, 65, 76, 83, 69]].any fun x => x == T ([84, 82, 85, 69] : List Nat)) = true := by simp only [List.any_cons, List.any_nil, T_beq]; rfl
      cases rest with
      | nil =>
        have hend : ¬ (((i + (([84, 82, 85, 69] : List Nat)).length : Nat) : Int) < ((T l).length : Int)) := by have h0 := hll; rw [List.length_nil, Nat.add_zero] at h0; rw [T_len, h0]; omega
        walk_at "mine go"
        (rename News _ _ _ _ => N')
        exact Back.mk (by with_reducible assumption) ⟨_, _, rfl, (N' _ (.head _)).2.2, (N' _ (.head _)).1⟩
      | cons c r =>
        have hjl1 : i + (([84, 82, 85, 69] : List Nat)).length < l.length := by have h0 : l.length = _ + (r.length + 1) := hll; omega
        have hjl' : ((i + (([84, 82, 85, 69] : List Nat)).length : Nat) : Int) < ((T l).length : Int) := by rw [T_len]; omega
        have hc : l[i + (([84, 82, 85, 69] : List Nat)).length]? = some c := get_drop (drop_len hl)
        have hcs : (!decide (c ∈ [44, 32, 61, 34, 39])) = false := by rw [decide_eq_true (show c ∈ [44, 32, 61, 34, 39] from hr c r rfl)]; rfl
        walk_at "mine go"
        (rename News _ _ _ _ => N')
        exact Back.mk (by with_reducible assumption) ⟨_, _, rfl, (N' _ (.head _)).2.2, (N' _ (.head _)).1⟩
theorem read_false (w : World)  (l rest : List Nat) (i : Nat) (hl : l.drop i = ([70, 65, 76, 83, 69] : List Nat) ++ rest) (hr : ∀ c r, rest = c :: r → c ∈ stopR) (tx ti : Tok) (z : Int) (hz : z = i) :
    Spc w 213 [.str (T l) tx, .int z ti] 3 40 (fun _ => l.length < 2^18) (fun h v h' => ∃ a t2, v = .ref a ∧ TupIs h a [.bool false, .int ((i + (([70, 65, 76, 83, 69] : List Nat)).length : Nat) : Int) t2] h') := by
  subst hz
  refine Spc.intro [("text", .str (T l) tx), ("at", .int i ti)] (by k_is) (by k_is) rfl (locs rfl) rfl rfl rfl (by decide) ?_
  intro p loose mean mg mb dp un gd outer A₀ base h₀ L s₀ B F N X Tp hd hu hx
  have hx' : (T l).length < 2^24 := by rw [T_len]; omega
  have hne : ([70, 65, 76, 83, 69] : List Nat) ≠ [] := by decide
  have ho : ∀ c ∈ ([70, 65, 76, 83, 69] : List Nat), c ∉ stopR := by decide
  have hone : 0 < (([70, 65, 76, 83, 69] : List Nat)).length := by cases hO : ([70, 65, 76, 83, 69] : List Nat) with
    | nil => exact absurd hO hne
    | cons => simp
  have hll : l.length = i + (([70, 65, 76, 83, 69] : List Nat)).length + rest.length := by
    have := congrArg List.length hl
    rw [List.length_drop, List.length_append] at this
    omega
  obtain ⟨c0, r0, hc0⟩ : ∃ c r, ([70, 65, 76, 83, 69] : List Nat) = c :: r := by cases hO : ([70, 65, 76, 83, 69] : List Nat) with
    | nil => exact absurd hO hne
    | cons c r => exact ⟨c, r, rfl⟩
  have hs1 : (l.drop i).take 1 = [c0] := by rw [hl, hc0]; rfl
  have hb0 : ([c0] == [39]) = false := by
    have := ho c0 (by rw [hc0]; exact .head _)
    have : c0 ≠ 39 := fun q => this (by rw [q]; decide)
    simp [this]
  walk_at "mine go"
  unfold Stop
  rename News _ _ _ _ => N'; rename Fr _ _ _ _ => F'
  refine' While_of (σ := RS) (fun c => [("text", .str (T l) tx), ("at", .int i ti), ("end", .int c.e c.te)]) (fun _ => []) (fun c => (l.length - c.j)) (fun c => c.e = c.j ∧ i ≤ c.j ∧ c.j ≤ i + (([70, 65, 76, 83, 69] : List Nat)).length) ⟨_, _, i⟩ F' N' ?h0 ?p0 ?turn
  case h0 => walk_at "mine pins"
  case p0 => exact ⟨rfl, Nat.le_refl _, Nat.le_add_right _ _⟩
  case turn =>
    rintro ⟨e, te, j⟩ u h₁ tk₁ ⟨he, hj1, hj2⟩ F₁ N₁
    dsimp only at he hj1 hj2 F₁ N₁ ⊢
    subst he
    clear F' N'
    rcases Nat.lt_or_ge j (i + (([70, 65, 76, 83, 69] : List Nat)).length) with hjl | hjl
    · have hjl1 : j < l.length := by omega
      have hjl' : (j : Int) < ((T l).length : Int) := by rw [T_len]; omega
      obtain ⟨c, hc⟩ : ∃ c, l[j]? = some c := ⟨l[j], List.getElem?_eq_getElem hjl1⟩
      have hco : c ∈ ([70, 65, 76, 83, 69] : List Nat) := by
        have h1 : (l.drop i)[j - i]? = some c := by rw [List.getElem?_drop, show i + (j - i) = j by omega]; exact hc
        rw [hl, List.getElem?_append_left (by omega)] at h1
        exact List.mem_of_getElem? h1
      have hcs : (!decide (c ∈ [44, 32, 61, 34, 39])) = true := by rw [decide_eq_false (show ¬ c ∈ [44, 32, 61, 34, 39] from ho c hco)]; rfl
      walk_at "mine go"
      dsimp only
      (rename Fr _ _ _ _ => F'); (rename News _ _ _ _ => N')
      refine' TurnEnd.mk ⟨_, _, j + 1⟩ F' N' ?hm ?pp ?mu
      case hm => walk_at "mine pins"
      case mu => dsimp only; omega
      case pp => exact ⟨rfl, by dsimp only; omega, by dsimp only; omega⟩
    · have hje : j = i + (([70, 65, 76, 83, 69] : List Nat)).length := Nat.le_antisymm hj2 hjl
      subst hje
      have hy : (l.drop i).take (i + (([70, 65, 76, 83, 69] : List Nat)).length - i) = ([70, 65, 76, 83, 69] : List Nat) := by rw [hl, Nat.add_sub_cancel_left, List.take_left']; rfl
      have hia : i ≤ i + (([70, 65, 76, 83, 69] : List Nat)).length := Nat.le_add_right _ _
      have hib : i + (([70, 65, 76, 83, 69] : List Nat)).length ≤ l.length := by omega
      have hw : ([T [78, 85, 76, 76], T [84, 82, 85, 69], T [70, 65, 76, 83, 69]].any fun x => x == T ([70, 65, 76, 83, 69] : List Nat)) = true := by simp only [List.any_cons, List.any_nil, T_beq]; rfl
      cases rest with
      | nil =>
        have hend : ¬ (((i + (([70, 65, 76, 83, 69] : List Nat)).length : Nat) : Int) < ((T l).length : Int)) := by have h0 := hll; rw [List.length_nil, Nat.add_zero] at h0; rw [T_len, h0]; omega
        walk_at "mine go"
        (rename News _ _ _ _ => N')
        exact Back.mk (by with_reducible assumption) ⟨_, _, rfl, (N' _ (.head _)).2.2, (N' _ (.head _)).1⟩
      | cons c r =>
        have hjl1 : i + (([70, 65, 76, 83, 69] : List Nat)).length < l.length := by have h0 : l.length = _ + (r.length + 1) := hll; omega
        have hjl' : ((i + (([70, 65, 76, 83, 69] : List Nat)).length : Nat) : Int) < ((T l).length : Int) := by rw [T_len]; omega
        have hc : l[i + (([70, 65, 76, 83, 69] : List Nat)).length]? = some c := get_drop (drop_len hl)
        have hcs : (!decide (c ∈ [44, 32, 61, 34, 39])) = false := by rw [decide_eq_true (show c ∈ [44, 32, 61, 34, 39] from hr c r rfl)]; rfl
        walk_at "mine go"
        (rename News _ _ _ _ => N')
        exact Back.mk (by with_reducible assumption) ⟨_, _, rfl, (N' _ (.head _)).2.2, (N' _ (.head _)).1⟩
end PartV6_
section PartQ4_
open Builtin Builtin.Str StrLaws
set_option maxRecDepth 100000
set_option maxHeartbeats 4000000
section
variable {prog : Program} {w : World} {A : Around} {E : Value → Shared → Prop} {s : Shared} {h₀ : Heap} {L : Addr} {m : Str → Option Value} {news : List (Addr × Obj)} {value slice : Expr} {Q : Value → Shared → Prop}
/-- two lists read alike are equal -/
theorem r_eqL {a b : Addr} {vs us : Array Value} {rs : List (Option (List Nat))} (hl : s.heap.IsList a vs) (hb : s.heap.IsList b us) (h1 : Rds vs.toList rs) (h2 : Rds us.toList rs) (hu : A.units < cLine) (h : Q (.bool true) s) :
    wpAny (model prog w) A (compareOp .Eq (.ref a) (.ref b)) Q E s := by
  have e1 : vs.size = rs.length := by have := h1.1; simpa using this
  have e2 : us.size = rs.length := by have := h2.1; simpa using this
  refine SeqAt.eq_listAt hl hb (e1.trans e2.symm) hu (e := fun _ => true) (fun j g1 g2 => ?_) (by rw [List.all_eq_true.mpr fun _ _ => rfl]; exact h)
  obtain ⟨r, hr⟩ : ∃ r, rs[j]? = some r := ⟨_, List.getElem?_eq_getElem (e1 ▸ g1)⟩
  obtain ⟨t, ht⟩ := h1.2 j vs[j] r (by simp [g1]) hr
  obtain ⟨u, hu'⟩ := h2.2 j us[j] r (by simp [g2]) hr
  rw [ht, hu']
  cases r with
  | none => exact SeqAt.EqAt.same _
  | some l =>
    have := SeqAt.EqAt.str_str (A := A.in1) (s := s) (T l) t (T l) u
    rw [beq_self_eq_true] at this
    exact this
theorem r_eqT {a b : Addr} {vs : Array Value} (hl : s.heap.IsTuple a vs) (hb : s.heap.IsTuple b vs) (hu : A.units < cLine) (h : Q (.bool true) s) :
    wpAny (model prog w) A (compareOp .Eq (.ref a) (.ref b)) Q E s := by
  refine SeqAt.eq_tupleAt hl hb hu (e := fun _ => true) (fun j g1 g2 => SeqAt.EqAt.same _) ?_
  rw [List.all_eq_true.mpr fun _ _ => rfl, beq_self_eq_true]
  exact h
/-- the first sign -/
theorem r_pre1 {l y : List Nat} {j : Int} {t uj : Tok} (hj : j = 1) (hy : l.take 1 = y) (hl : (T l).length < 2 ^ 24)
    (F : Fr h₀ L s.heap m) (N : News h₀ L s.heap news) (hQ : ∀ h' t' k, Fr h₀ L h' m → News h₀ L h' news → Q (.str (T y) t') { s with heap := h', toks := k })
    (hs : subscripted slice false (.str (T l) t) (.ref s.heap.objs.size) = operate [.ref s.heap.objs.size, .str (T l) t] (getItem (.str (T l) t) (.ref s.heap.objs.size)) := by with_unfolding_all rfl)
    (ht : ∀ r, letTemporaryGo value (.str (T l) t) r = pure () := by intro _; with_unfolding_all rfl) :
    wpAny (model prog w) A (subscriptTail value slice (.str (T l) t) (.ref s.heap.objs.size)) Q E { s with heap := s.heap.push { cls := .type "slice", data := .fields #[.none, .int j uj, .none] } } := by
  subst hj hy
  refine slice_strN_ns F N (fun h' t' k' F' N' => ?_) hs ht (by rw [sizeLine_eq]; omega)
  have e : Txt.slice (T l) none (some 1) = T (l.take 1) := by
    have e1 : Txt.slice (T l) none (some 1) = Txt.slice (T l) (some ((0 : Nat) : Int)) (some (((0 : Nat) : Int) + 1)) := rfl
    rw [e1, slice_one]; rfl
  rw [e]
  exact hQ h' t' k' F' N'
end
end PartQ4_
section PartV7_
local macro_rules | `(tactic| walk_at "call ref") => `(tactic| refine Stop.mk ?_)
theorem anew_V7 : True := by
  w_top off
  exact trivial
local macro_rules | `(tactic| walk_at "exec Assign cons ListComp") => `(tactic| refine Stop.mk ?_)
local macro_rules | `(tactic| walk_at "subscriptTail Name Slice str ref") => `(tactic| ((with_reducible rename Fr _ _ _ _ => F'); (with_reducible rename News _ _ _ _ => N'); first
  | (refine' r_pre1 (s := ⟨_, _, _, _, _⟩) rfl ?y ?l F' N' ?_; (case y => with_reducible assumption); (case l => first | assumption | omega); intro _ _ _ _ _)))
local macro_rules | `(tactic| walk_at "compareOp Eq ref ref") => `(tactic| refine Stop.mk ?_)
structure SO where
  (ys : List Value)
theorem same_list (w : World) (ax : Addr) (vs : List Value) (xs : List It) (hv : Its vs xs) (hok : ∀ x ∈ xs, x.Ok) (hsg : ∀ x ∈ xs, x.Sg) (hlen : xs.length ≤ 4) (tt : Tok) :
    Spc w 218 [.ref ax, .str (T (aoOut xs)) tt] 6 80 (fun h => h.IsList ax vs.toArray) (fun _ v _ => v = .bool true) := by
  refine Spc.intro [("value", .ref ax), ("told", .str (T (aoOut xs)) tt)] (by k_is) (by k_is) rfl (locs rfl) rfl rfl rfl (by decide) ?_
  intro p loose mean mg mb dp un gd outer A₀ base h₀ L s B F N X Tp hd hu hx
  have hl1 := aoOut_len hok hlen
  have hx' : (T (aoOut xs)).length < 2^24 := by rw [T_len]; omega
  have hs1 : (aoOut xs).take 1 = [123] := by rw [aoOut_tail]; rfl
  have hb1 : (([123] : List Nat) == [123]) = true := rfl
  walk_at "mine go"
  unfold Stop
  rename Fr _ _ _ _ => Fo; rename News _ _ _ _ => No
  refine Spc.use1 (list_spc w xs hok hsg hlen tt _) (by walk_at "mine g") (by walk_at "mine g") trivial ?_
  rintro v h' tk' F' N' ⟨a, b, rv, rn, t, rfl, ⟨hn1, ho1⟩, hn2, ho2, hrd⟩
  have N2 := news_new Fo (news_new Fo N' hn1 ho1) hn2 ho2
  clear N' No
  have hl2 : vs.length = xs.length := hv.1
  have hend : (((aoOut xs).length : Nat) : Int) = ((T (aoOut xs)).length : Int) := by rw [T_len]
  walk_at "mine go"
  unfold Stop
  rename Fr _ _ _ _ => F; rename News _ _ _ _ => N
  refine Assign_ListComp_G F rfl (by with_unfolding_all rfl) rfl (by decide) rfl (by decide) rfl rfl rfl ?_
  walk_at "mine go"
  rename Fr _ _ _ _ => F; rename News _ _ _ _ => N
  refine csrc_list (σ := SO) (s := ⟨_, _, _, _, _⟩) (its := vs.toArray) (fun c => [(b, W.listOf rv rn)]) (fun i c => c.ys.length = i ∧ Rds c.ys ((xs.take i).map It.read)) (fun c => c.ys) (Same s) ⟨[]⟩ rfl (.inl hx) ?sz (fun _ _ _ h => h) Same.rfl F (news_mem N (by simp)) ⟨rfl, Rds.nil⟩ ?adr ?turn ?done
  case sz => rw [List.size_toArray, sizeLine_eq]; omega
  case adr => rintro i c ⟨h, _⟩; exact ⟨h, fun p hp => by cases List.mem_singleton.mp hp; exact .head _⟩
  case turn =>
    rintro i ⟨ys⟩ s₁ v I C₁ D oI oC m₂ E' hi ⟨hy, hs⟩ hg hoC hm₂ F₁ N₁ hlt hID hDC
    obtain ⟨h₁, k₁, rfl⟩ := hg.ex
    have hi' : vs[i]? = some v := by simpa using hi
    have hil : i < vs.length := (List.getElem?_eq_some_iff.mp hi').1
    obtain ⟨x, hxi⟩ : ∃ x, xs[i]? = some x := ⟨xs[i]'(hl2 ▸ hil), List.getElem?_eq_getElem (hl2 ▸ hil)⟩
    have hIs := hv.2 i v x hi' hxi
    have hOk := hok x (List.mem_of_getElem? hxi)
    have hst : (xs.take (i + 1)).map It.read = (xs.take i).map It.read ++ [x.read] := by rw [List.take_add_one, hxi, List.map_append]; rfl
    cases x with
    | non =>
      cases hIs
      walk_at "mine go"
      rename Fr _ _ _ _ => F₂; rename News _ _ _ _ => N₂
      exact CEnd.mk ⟨ys ++ [.none]⟩ Same.rfl F₂ N₂ (by simp) ⟨by simp [hy], by rw [hst]; exact hs.snoc (r := none) 0⟩ rfl
    | int z =>
      obtain ⟨ti, rfl⟩ := hIs
      obtain ⟨z1, z2⟩ := hOk
      walk_at "mine go"
      rename Fr _ _ _ _ => F₂; rename News _ _ _ _ => N₂
      exact CEnd.mk ⟨ys ++ [.str (T (num z)) _]⟩ Same.rfl F₂ N₂ (by simp) ⟨by simp [hy], by rw [hst]; exact hs.snoc (r := some (num z)) _⟩ rfl
    | txt l =>
      obtain ⟨ti, rfl⟩ := hIs
      walk_at "mine go"
      rename Fr _ _ _ _ => F₂; rename News _ _ _ _ => N₂
      exact CEnd.mk ⟨ys ++ [.str (T l) ti]⟩ Same.rfl F₂ N₂ (by simp) ⟨by simp [hy], by rw [hst]; exact hs.snoc (r := some l) _⟩ rfl
  case done =>
    rintro D ⟨ys⟩ s₁ ⟨hy, hs⟩ hg hlt h₁ tk₁ F₁ N₁
    obtain ⟨h₂, k₂, rfl⟩ := hg.ex
    have hs' : Rds ys (xs.map It.read) := by
      have e : xs.take vs.toArray.size = xs := by rw [List.size_toArray, hl2, List.take_length]
      rwa [e] at hs
    walk_at "mine go"
    unfold Stop
    refine r_eqL ⟨_, (N₁ _ (.tail _ (.head _))).1, rfl, _, rfl⟩ ⟨_, (N₁ _ (.head _)).1, rfl, _, rfl⟩ hrd hs' (by show un < cLine; omega) ?_
    walk_at "mine go"
    refine Back.mk (by with_reducible assumption) ?_
    show Value.bool _ = Value.bool true
    rw [hend, beq_self_eq_true]
end PartV7_
section PartV8_
local macro_rules | `(tactic| walk_at "call ref") => `(tactic| refine Stop.mk ?_)
theorem anew_V8 : True := by
  w_top off
  exact trivial
theorem same_none (w : World) : Spc w 218 [.none, .none] 3 40 (fun _ => True) (fun _ v _ => v = .bool true) := by
  refine Spc.intro [("value", .none), ("told", .none)] (by k_is) (by k_is) rfl (locs rfl) rfl rfl rfl (by decide) ?_
  intro p loose mean mg mb dp un gd outer A₀ base h₀ L s B F N X Tp hd hu hx
  walk_at "mine go"
  rename News _ _ _ _ => N
  refine r_eqT ⟨_, (N _ (.tail _ (.head _))).1, rfl, _, rfl⟩ ⟨_, (N _ (.head _)).1, rfl, _, rfl⟩ (by show un < cLine; omega) ?_
  exact Back.mk (by with_reducible assumption) rfl
theorem same_bool (w : World) (b : Bool) : Spc w 218 [.bool b, .bool b] 3 40 (fun _ => True) (fun _ v _ => v = .bool true) := by
  refine Spc.intro [("value", .bool b), ("told", .bool b)] (by k_is) (by k_is) rfl (locs rfl) rfl rfl rfl (by decide) ?_
  intro p loose mean mg mb dp un gd outer A₀ base h₀ L s B F N X Tp hd hu hx
  walk_at "mine go"
  rename News _ _ _ _ => N
  refine r_eqT ⟨_, (N _ (.tail _ (.head _))).1, rfl, _, rfl⟩ ⟨_, (N _ (.head _)).1, rfl, _, rfl⟩ (by show un < cLine; omega) ?_
  exact Back.mk (by with_reducible assumption) rfl
theorem same_int (w : World) (z : Int) (t u : Tok) : Spc w 218 [.int z t, .int z u] 3 40 (fun _ => True) (fun _ v _ => v = .bool true) := by
  refine Spc.intro [("value", .int z t), ("told", .int z u)] (by k_is) (by k_is) rfl (locs rfl) rfl rfl rfl (by decide) ?_
  intro p loose mean mg mb dp un gd outer A₀ base h₀ L s B F N X Tp hd hu hx
  walk_at "mine go"
  rename News _ _ _ _ => N
  refine r_eqT ⟨_, (N _ (.tail _ (.head _))).1, rfl, _, rfl⟩ ⟨_, (N _ (.head _)).1, rfl, _, rfl⟩ (by show un < cLine; omega) ?_
  exact Back.mk (by with_reducible assumption) rfl
theorem same_txt (w : World) (l : List Nat) (t u : Tok) : Spc w 218 [.str (T l) t, .str (T l) u] 3 40 (fun _ => True) (fun _ v _ => v = .bool true) := by
  refine Spc.intro [("value", .str (T l) t), ("told", .str (T l) u)] (by k_is) (by k_is) rfl (locs rfl) rfl rfl rfl (by decide) ?_
  intro p loose mean mg mb dp un gd outer A₀ base h₀ L s B F N X Tp hd hu hx
  walk_at "mine go"
  rename News _ _ _ _ => N
  refine r_eqT ⟨_, (N _ (.tail _ (.head _))).1, rfl, _, rfl⟩ ⟨_, (N _ (.head _)).1, rfl, _, rfl⟩ (by show un < cLine; omega) ?_
  exact Back.mk (by with_reducible assumption) rfl
end PartV8_
section PartV9_
theorem anew_V9 : True := by
  w_top off
  exact trivial
local macro_rules | `(tactic| k_room) => `(tactic| ((simp only [depth_mark, depth_under_make, depth_under_kw, depth_in1, depth_deeper, ktrTop_depth]); omega))
theorem ref_none {w : World} {p : Program} {loose : List Str} {mean : ExcName → Option Value} {mg mb : Str → Option Value} {dp un : Nat} {gd : Option (List Code)} {cn : Str} {nm : List (Str × NameKind)} {ig ic : Bool} {mo : List (Str × Const)} {a : Addr} {ccd : Value} {A₀ : Around} {h₀ : Heap} {L : Addr} {m : Str → Option Value} {s : Shared} {Q E : Value → Shared → Prop} {news : List (Addr × Obj)} 
    (B : Below A₀ h₀ [] h₀) (F : Fr h₀ L s.heap m) (N : News h₀ L s.heap news) (X : (hd.heap_39 w.params).In h₀) (Tp : Top p loose mean mg mb h₀) (hd : dp + 6 < recursionLimit) (hu : un + 80 < cLine)
    (hret : ∀ h' tk', Fr h₀ L h' m → News h₀ L h' news → Q (.bool true) { s with heap := h', toks := tk' }) :
    wpAny (model PySem.Challenge.rw_ew0021_01.row.prog w) (ktrTop dp un gd cn ⟨.function, nm, ig, ic, mo⟩ L a ccd [] []) (call (.ref 225) [.none]) Q E s := by
  refine wpAny_call ?_
  kts_go
  walk_at "mine go"
  exact hret _ _ (by with_reducible assumption) (by with_reducible assumption)
theorem ref_int {w : World} {p : Program} {loose : List Str} {mean : ExcName → Option Value} {mg mb : Str → Option Value} {dp un : Nat} {gd : Option (List Code)} {cn : Str} {nm : List (Str × NameKind)} {ig ic : Bool} {mo : List (Str × Const)} {a : Addr} {ccd : Value} {A₀ : Around} {h₀ : Heap} {L : Addr} {m : Str → Option Value} {s : Shared} {Q E : Value → Shared → Prop} {news : List (Addr × Obj)} {z : Int} {t : Tok}
    (B : Below A₀ h₀ [] h₀) (F : Fr h₀ L s.heap m) (N : News h₀ L s.heap news) (X : (hd.heap_39 w.params).In h₀) (Tp : Top p loose mean mg mb h₀) (hd : dp + 6 < recursionLimit) (hu : un + 80 < cLine)
    (hret : ∀ h' tk', Fr h₀ L h' m → News h₀ L h' news → Q (.bool true) { s with heap := h', toks := tk' }) :
    wpAny (model PySem.Challenge.rw_ew0021_01.row.prog w) (ktrTop dp un gd cn ⟨.function, nm, ig, ic, mo⟩ L a ccd [] []) (call (.ref 225) [.int z t]) Q E s := by
  refine wpAny_call ?_
  kts_go
  walk_at "mine go"
  exact hret _ _ (by with_reducible assumption) (by with_reducible assumption)
theorem ref_bool {w : World} {p : Program} {loose : List Str} {mean : ExcName → Option Value} {mg mb : Str → Option Value} {dp un : Nat} {gd : Option (List Code)} {cn : Str} {nm : List (Str × NameKind)} {ig ic : Bool} {mo : List (Str × Const)} {a : Addr} {ccd : Value} {A₀ : Around} {h₀ : Heap} {L : Addr} {m : Str → Option Value} {s : Shared} {Q E : Value → Shared → Prop} {news : List (Addr × Obj)} {b : Bool}
    (B : Below A₀ h₀ [] h₀) (F : Fr h₀ L s.heap m) (N : News h₀ L s.heap news) (X : (hd.heap_39 w.params).In h₀) (Tp : Top p loose mean mg mb h₀) (hd : dp + 6 < recursionLimit) (hu : un + 80 < cLine)
    (hret : ∀ h' tk', Fr h₀ L h' m → News h₀ L h' news → Q (.bool true) { s with heap := h', toks := tk' }) :
    wpAny (model PySem.Challenge.rw_ew0021_01.row.prog w) (ktrTop dp un gd cn ⟨.function, nm, ig, ic, mo⟩ L a ccd [] []) (call (.ref 225) [.bool b]) Q E s := by
  refine wpAny_call ?_
  kts_go
  walk_at "mine go"
  exact hret _ _ (by with_reducible assumption) (by with_reducible assumption)
theorem ref_list {w : World} {p : Program} {loose : List Str} {mean : ExcName → Option Value} {mg mb : Str → Option Value} {dp un : Nat} {gd : Option (List Code)} {cn : Str} {nm : List (Str × NameKind)} {ig ic : Bool} {mo : List (Str × Const)} {a : Addr} {ccd : Value} {A₀ : Around} {h₀ : Heap} {L : Addr} {m : Str → Option Value} {s : Shared} {Q E : Value → Shared → Prop} {news : List (Addr × Obj)} {la : Addr} {vs : Array Value} {n : Nat}
    (B : Below A₀ h₀ [] h₀) (F : Fr h₀ L s.heap m) (N : News h₀ L s.heap ((la, W.listOf vs n) :: news)) (X : (hd.heap_39 w.params).In h₀) (Tp : Top p loose mean mg mb h₀) (hd : dp + 6 < recursionLimit) (hu : un + 80 < cLine)
    (hret : ∀ h' tk', Fr h₀ L h' m → News h₀ L h' ((la, W.listOf vs n) :: news) → Q (.bool true) { s with heap := h', toks := tk' }) :
    wpAny (model PySem.Challenge.rw_ew0021_01.row.prog w) (ktrTop dp un gd cn ⟨.function, nm, ig, ic, mo⟩ L a ccd [] []) (call (.ref 225) [.ref la]) Q E s := by
  refine wpAny_call ?_
  kts_go
  walk_at "mine go"
  exact hret _ _ (by with_reducible assumption) (by with_reducible assumption)
theorem ref_empty {w : World} {p : Program} {loose : List Str} {mean : ExcName → Option Value} {mg mb : Str → Option Value} {dp un : Nat} {gd : Option (List Code)} {cn : Str} {nm : List (Str × NameKind)} {ig ic : Bool} {mo : List (Str × Const)} {a : Addr} {ccd : Value} {A₀ : Around} {h₀ : Heap} {L : Addr} {m : Str → Option Value} {s : Shared} {Q E : Value → Shared → Prop} {news : List (Addr × Obj)} {t : Tok}
    (B : Below A₀ h₀ [] h₀) (F : Fr h₀ L s.heap m) (N : News h₀ L s.heap news) (X : (hd.heap_39 w.params).In h₀) (Tp : Top p loose mean mg mb h₀) (hd : dp + 6 < recursionLimit) (hu : un + 80 < cLine)
    (hret : ∀ h' tk', Fr h₀ L h' m → News h₀ L h' news → Q (.bool true) { s with heap := h', toks := tk' }) :
    wpAny (model PySem.Challenge.rw_ew0021_01.row.prog w) (ktrTop dp un gd cn ⟨.function, nm, ig, ic, mo⟩ L a ccd [] []) (call (.ref 225) [.str (T []) t]) Q E s := by
  have hl1 : (T []).length < 2^24 := by decide
  have hl2 : (((T []).length : Int) == 0) = true := rfl
  refine wpAny_call ?_
  kts_go
  walk_at "mine go"
  exact hret _ _ (by with_reducible assumption) (by with_reducible assumption)
theorem ref_zero {w : World} {p : Program} {loose : List Str} {mean : ExcName → Option Value} {mg mb : Str → Option Value} {dp un : Nat} {gd : Option (List Code)} {cn : Str} {nm : List (Str × NameKind)} {ig ic : Bool} {mo : List (Str × Const)} {a : Addr} {ccd : Value} {A₀ : Around} {h₀ : Heap} {L : Addr} {m : Str → Option Value} {s : Shared} {Q E : Value → Shared → Prop} {news : List (Addr × Obj)} {l : List Nat} {t : Tok} (h0 : 0 ∈ l) (hlen : l.length ≤ 1000)
    (B : Below A₀ h₀ [] h₀) (F : Fr h₀ L s.heap m) (N : News h₀ L s.heap news) (X : (hd.heap_39 w.params).In h₀) (Tp : Top p loose mean mg mb h₀) (hd : dp + 6 < recursionLimit) (hu : un + 80 < cLine)
    (hret : ∀ h' tk', Fr h₀ L h' m → News h₀ L h' news → Q (.bool true) { s with heap := h', toks := tk' }) :
    wpAny (model PySem.Challenge.rw_ew0021_01.row.prog w) (ktrTop dp un gd cn ⟨.function, nm, ig, ic, mo⟩ L a ccd [] []) (call (.ref 225) [.str (T l) t]) Q E s := by
  have hl1 : (T l).length < 2^24 := by rw [T_len]; omega
  have hl2 : (((T l).length : Int) == 0) = false := by
    rw [T_len]
    cases l with
    | nil => cases h0
    | cons a r => simp; omega
  have hz : decide (0 ∈ l) = true := decide_eq_true h0
  refine wpAny_call ?_
  kts_go
  walk_at "mine go"
  exact hret _ _ (by with_reducible assumption) (by with_reducible assumption)
end PartV9_
section PartL7_
set_option maxRecDepth 100000
set_option maxHeartbeats 4000000
/-- a pure def of the text that is handed objects of the ledger -/
def SpcN (w : World) (f : Addr) (vs : List Value) (d u : Nat) (news : List (Addr × Obj)) (R : Value → Nat → Prop) : Prop :=
  ∀ (p : Program) (loose : List Str) (mean : ExcName → Option Value) (mg mb : Str → Option Value) (dp un : Nat) (gd : Option (List Code)) (cn : Str) (cs : Scope) (a : Addr) (ccd : Value) (cl : List (Str × Addr)) (outer : List Env) (A₀ : Around) (base h₀ : Heap) (L : Addr) (m : Str → Option Value) (s : Shared) (Q E : Value → Shared → Prop),
    Below A₀ base outer h₀ → Fr h₀ L s.heap m → News h₀ L s.heap news → (hd.heap_39 w.params).In h₀ → Top p loose mean mg mb h₀ → cs.kind = .function →
    dp + d < recursionLimit → un + u < cLine →
    (∀ v h' tk', (∀ b o, s.heap.get? b = some o → h'.get? b = some o) → R v tk' → Q v { s with heap := h', toks := tk' }) →
    wpAny (model PySem.Challenge.rw_ew0021_01.row.prog w) (ktrTop dp un gd cn cs L a ccd cl outer) (call (.ref f) vs) Q E s

def BackN (h₀ : Heap) (L : Addr) (news : List (Addr × Obj)) (R : Value → Nat → Prop) (s : Shared) (fl : Flow) (s' : Shared) : Prop :=
  ∃ h' tk' m', s' = { s with heap := h', toks := tk' } ∧ Fr h₀ L h' m' ∧ News h₀ L h' news ∧ R (retv fl) tk'
theorem BackN.mk {h₀ : Heap} {L : Addr} {news all : List (Addr × Obj)} {R : Value → Nat → Prop} {s : Shared} {fl : Flow} {h' : Heap} {tk' : Nat} {m' : Str → Option Value} (F : Fr h₀ L h' m') (N : News h₀ L h' all) (hs : ∀ q ∈ news, q ∈ all) (r : R (retv fl) tk') : BackN h₀ L news R s fl { s with heap := h', toks := tk' } :=
  ⟨h', tk', m', rfl, F, fun q hq => N q (hs q hq), r⟩

theorem SpcN.intro {w : World} {f : Addr} {vs : List Value} {d u : Nat} {news : List (Addr × Obj)} {R : Value → Nat → Prop}
    {name qual : Str} {params : Arguments} {body : List Stmt} {scope : Scope} {dV kV doc pm cdv ct oc : Value} {an od : Option Addr} {osl : Array (Option Value)} (binds : List (Str × Value))
    (ho : (hd.heap_39 w.params).lookup f = some ⟨oc, od, .func (fnOf name qual params body scope dV kV doc pm an cdv ct), osl⟩) (hcd : codeIn (hd.heap_39 w.params) cdv qual = true)
    (hbind : bindArgs (fnOf name qual params body scope dV kV doc pm an cdv ct) ⟨vs, []⟩ = pure binds) (hloc : ∀ y ∈ binds, scope.names.lookup y.1 = some .local)
    (hco : scope.isCoroutine = false) (hgen : scope.isGenerator = false) (hk : scope.kind = .function) (hcell : ∀ x ∈ scope.names, x.2 ≠ .cell)
    (h : ∀ (p : Program) (loose : List Str) (mean : ExcName → Option Value) (mg mb : Str → Option Value) (dp un : Nat) (gd : Option (List Code)) (outer : List Env) (A₀ : Around) (base h₀ : Heap) (L : Addr) (s : Shared),
      Below A₀ base outer h₀ → Fr h₀ L s.heap (fun y => binds.reverse.lookup y) → News h₀ L s.heap news → (hd.heap_39 w.params).In h₀ → Top p loose mean mg mb h₀ → dp + d < recursionLimit + 1 → un + u < cLine + 3 →
      wpAny (model PySem.Challenge.rw_ew0021_01.row.prog w) (ktrTop dp un gd qual scope L f cdv [] outer) (execs body (envOf qual scope L f cdv))
        (BackN h₀ L news R s) (fun _ _ => False) s)
    (hd0 : 0 < d := by decide) : SpcN w f vs d u news R := by
  intro p loose mean mg mb dp un gd cn cs a ccd cl outer A₀ base h₀ L m s Q E B F N X T hke hd hu hret
  obtain ⟨_, BG, st, _⟩ := groundX (R := fun _ _ => True) (A := ktrTop dp un gd cn cs L a ccd cl outer) (env := envX cn cs L a ccd cl) B F N rfl rfl hke
  refine wpAny_call ?_
  refine codeAny_call_def (fd := fnOf name qual params body scope dV kV doc pm an cdv ct) (body := body) (binds := binds) ?_ (X.keeps F.keep _ _ ho) rfl (T.nolimit.keeps F.keep) (codeRec_of (X.keeps F.keep) hcd) rfl (BindsTo.of_eq hbind) hcell hloc (fun h₁ hns hk₁ => ?_) hco hgen hk
  · show dp < recursionLimit
    omega
  · have F₁ : Fr (hideAll s.heap (news.map (·.1))) s.heap.objs.size h₁ (fun y => binds.reverse.lookup y) := ⟨hns, fun b o e => hk₁ b o (of_hideAll _ e), Nat.le_of_eq (hideAll_size _ _)⟩
    have N₁ : News (hideAll s.heap (news.map (·.1))) s.heap.objs.size h₁ news := fun q hq => ⟨hk₁ _ _ (N q hq).1, Nat.ne_of_lt (Heap.lt_size (N q hq).1), hideAll_none _ (List.mem_map_of_mem hq)⟩
    have h9 := h p loose mean mg mb (dp + 1) (un + 3) gd (envX cn cs L a ccd cl :: outer) _ base _ s.heap.objs.size { s with heap := h₁, toks := s.toks + binds.length } BG F₁ N₁ (X.keeps st) (T.keeps st) (by omega) (by omega)
    refine wpAny_mono (A := (ktrTop dp un gd cn cs L a ccd cl outer).deeper (envOf qual scope s.heap.objs.size f cdv)) h9 ?_ (fun _ _ x => x.elim)
    rintro fl s' ⟨h', tk', m', rfl, F', N', r⟩
    have k : ∀ b o, s.heap.get? b = some o → h'.get? b = some o := fun b o e => by
      by_cases hb : b ∈ news.map (·.1)
      · obtain ⟨q, hq, rfl⟩ := List.mem_map.mp hb
        rw [(N q hq).1] at e; cases e
        exact (N' q hq).1
      · exact F'.keep b o (hideAll_get _ e hb)
    cases fl <;> exact hret _ h' tk' k r

theorem SpcN.use1 {w : World} {f : Addr} {vs : List Value} {d u : Nat} {nw : List (Addr × Obj)} {R : Value → Nat → Prop} (S : SpcN w f vs d u nw R)
    {p : Program} {loose : List Str} {mean : ExcName → Option Value} {mg mb : Str → Option Value} {dp un : Nat} {gd : Option (List Code)} {cn : Str} {cs : Scope} {a : Addr} {ccd : Value} {cl : List (Str × Addr)} {outer : List Env} {A₀ : Around} {base h₀ : Heap} {L : Addr} {m : Str → Option Value} {news : List (Addr × Obj)} {s : Shared} {Q E : Value → Shared → Prop}
    (g : Below A₀ base outer h₀ ∧ Fr h₀ L s.heap m ∧ (hd.heap_39 w.params).In h₀ ∧ News h₀ L s.heap news ∧ Top p loose mean mg mb h₀)
    (hs : ∀ q ∈ nw, q ∈ news) (n : dp + d < recursionLimit ∧ un + u < cLine)
    (hret : ∀ v h' tk', Fr h₀ L h' m → News h₀ L h' news → R v tk' → Q v { s with heap := h', toks := tk' }) (hke : cs.kind = .function := by rfl) :
    wpAny (model PySem.Challenge.rw_ew0021_01.row.prog w) (ktrTop dp un gd cn cs L a ccd cl outer) (call (.ref f) vs) Q E s :=
  S p loose mean mg mb dp un gd cn cs a ccd cl outer A₀ base h₀ L m s Q E g.1 g.2.1 (fun q hq => g.2.2.2.1 q (hs q hq)) g.2.2.1 g.2.2.2.2 hke n.1 n.2 fun v h' tk' k r => hret v h' tk' (g.2.1.keeps k) (g.2.2.2.1.keeps k) r
section
open LCg (lst NsObj)
variable {prog : Program} {w : World} {A : Around} {E : Value → Shared → Prop} {s : Shared} {h₀ : Heap} {L : Addr} {m : Str → Option Value} {env : Env}
/-- a tuple as the source -/
theorem csrc_tup {σ : Type} {scope : Scope} {cl : List (Str × Addr)} {x : Str} {elt : Expr} {Fin : Addr → List Value → List (Addr × Obj) → Shared → Prop} {ax : Addr} {its : Array Value}
    (nw : σ → List (Addr × Obj)) (P : Nat → σ → Prop) (out : σ → List Value) (Gd : Shared → Prop) (c₀ : σ) (hh : A.handled = none)
    (hsrc : ∃ o, o.cls = .type "tuple" ∧ (∃ n, o.data = .seq its n) ∧ (ax, o) ∈ nw c₀ ∧ ∀ c i, P i c → (ax, o) ∈ nw c) (hsz : its.size ≤ sizeLine)
    (hGd : ∀ s h tk, Gd s → Gd { s with heap := h, toks := tk }) (hgd : Gd s) (F : Fr h₀ L s.heap m) (N : News h₀ L s.heap (nw c₀)) (hp0 : P 0 c₀)
    (hadr : ∀ i c, P i c → (out c).length = i ∧ ∀ p ∈ nw c, p.1 ∈ (nw c₀).map (·.1))
    (turn : ∀ (i : Nat) (c : σ) (s₁ : Shared) (v : Value) (I C D : Addr) (oI oC : Obj) (m₂ : Str → Option Value) (E' : Value → Shared → Prop), its[i]? = some v → P i c → Gd s₁ → NsObj oC m₂ → m₂ x = some v → Fr h₀ L s₁.heap m → News h₀ L s₁.heap ((I, oI) :: (C, oC) :: (D, lst (out c)) :: nw c) →
      (∀ p ∈ nw c, p.1 < I) → I < D → D < C → wpAny (model prog w) A (eval elt (compEnvC scope cl C env)) (CEnd nw P out Gd h₀ L m I oI C oC D i c) E' s₁)
    (done : ∀ (D : Addr) (c : σ) (s₁ : Shared), P its.size c → Gd s₁ → (∀ p ∈ nw c, p.1 < D) → Fin D (out c) (nw c) s₁) :
    wpAny (model prog w) A (pyIter (.ref ax)) (CSrc prog w A h₀ L m scope cl env x elt Fin) E s := by
  have hlt := lt_of_news N
  have hl : s.heap.IsTuple ax its := by
    obtain ⟨o, h1, h2, h3, _⟩ := hsrc
    exact ⟨o, (N _ h3).1, h1, h2⟩
  have haxlt : ax < s.heap.objs.size := by obtain ⟨_, e, _⟩ := hl; exact Heap.lt_size e
  obtain ⟨hIL, hI₀⟩ := fresh_above F (Nat.le_refl _)
  have up : ∀ o b o', s.heap.get? b = some o' → (s.heap.push o).get? b = some o' := fun o b o' e => Heap.get?_push_of_some _ e
  have hadr' : ∀ i c, P i c → (out c).length = i ∧ ∀ p ∈ nw c, p.1 < s.heap.objs.size := fun i c hP => ⟨(hadr i c hP).1, fun p hp => by
    obtain ⟨q, hq, e⟩ := List.mem_map.mp ((hadr i c hP).2 p hp)
    rw [← e]; exact hlt q hq⟩
  refine wpAny_pyIter_tuple hl ⟨σ, nw, P, out, Gd, c₀, s.heap.objs.size, its.size, _, _, _, rfl, Walks.tuple hh s.heap.objs.size ax (Nat.ne_of_lt haxlt) its, hsz, ⟨⟨_, Heap.get?_push_size _ rfl, rfl, rfl⟩, hl.push _⟩, fun i h st => by obtain ⟨o, e, _⟩ := st.1; exact ⟨o, e⟩, ?_, ?_, hGd, hGd _ _ _ hgd, F.keeps (up _), N.keeps (up _), hIL, hI₀, ?_, hadr', hp0, ?_, done⟩
  · intro b hb
    show b < (s.heap.push _).objs.size
    rw [Heap.size_push]
    rcases List.mem_cons.mp hb with rfl | hb
    · exact Nat.lt_succ_self _
    · rw [List.mem_singleton.mp hb]; exact Nat.lt_succ_of_lt haxlt
  · intro b hb
    rcases List.mem_cons.mp hb with rfl | hb
    · exact .inl rfl
    · rw [List.mem_singleton.mp hb]
      obtain ⟨o, _, _, _, h4⟩ := hsrc
      exact .inr (.inr ⟨o, h4⟩)
  · show s.heap.objs.size < (s.heap.push _).objs.size
    rw [Heap.size_push]; exact Nat.lt_succ_self _
  · intro i c s₁ v C D oI oC m₂ E' hi hV hP hg hoC hx F₁ N₁ h1 h2 h3
    exact turn i c s₁ v _ C D oI oC m₂ E' hV hP hg hoC hx F₁ N₁ h1 h2 h3
end
theorem r_add {prog : Program} {w : World} {A : Around} {E : Value → Shared → Prop} {s : Shared} {Q : Value → Shared → Prop} {a b : List Nat} {t u : Tok} (hl : a.length + b.length < 2 ^ 23) (h : ∀ t' k, Q (.str (T (a ++ b)) t') { s with toks := k }) :
    wpAny (model prog w) A (binaryOp .Add (.str (T a) t) (.str (T b) u)) Q E s := by
  refine SB.add (fun t' k => ?_) (by rw [T_len, T_len, sizeLine_eq]; omega)
  rw [T_append]; exact h t' k
theorem jn0n {z : Int} : Str.empty ++ Str.ofString (toString z) = T (num z) := by rw [str_num]; exact jn0
theorem jn1n {x : Str} {a : List Nat} {z : Int} (h : x = T a) : x ++ Str.ofString (toString z) = T (a ++ num z) := by rw [str_num]; exact jn1 h
end PartL7_
end Pre5_
end Pre4_
section PartX1_
theorem anew_X1 : True := by
  w_top off
  exact trivial
local macro_rules | `(tactic| k_room) => `(tactic| ((simp only [depth_mark, depth_under_make, depth_under_kw, depth_in1, depth_deeper, ktrTop_depth]); omega))
local macro_rules | `(tactic| walk_at "eval ListComp") => `(tactic| refine Stop.mk ?_)
local macro_rules | `(tactic| walk_at "pyIter ref") => `(tactic| refine Stop.mk ?_)
def rngOut (lo : Nat) (hi : Option Nat) : List Nat := [91] ++ num lo ++ [44] ++ (match hi with | none => [] | some n => num n) ++ [41]
theorem it_0 : Txt.item (Str.ofString "[)") 0 = T [91] := by decide +kernel
theorem it_1 : Txt.item (Str.ofString "[)") 1 = T [41] := by decide +kernel
theorem ex_txt {x y : Str} {t : Tok} (e : x = y) : ∃ u, Value.str x t = .str y u := ⟨t, by rw [e]⟩
structure RG where
  (ys : List Value)
def UIs (u : Value) : Option Nat → Prop
  | none => ∃ t, u = .str (T []) t
  | some n => ∃ t, u = .int n t
theorem str_rng0 (w : World) (a d lo : Nat)  (k1 k2 k3 k4 tb t : Tok) (hlo : lo < 50)  :
    SpcN w 154 [.ref a] 3 60 [(a, instObj 164 d), (d, rngD w (.int lo t) (.none) k1 k2 k3 k4 tb)] (fun r tk => 0 < tk ∧ ∃ t, r = .str (T (rngOut lo (none))) t) := by
  refine SpcN.intro [("self", .ref a)] (by k_is) (by k_is) rfl (locs rfl) rfl rfl rfl (by decide) ?_
  intro p loose mean mg mb dp un gd outer A₀ base h₀ L s B F N X Tp hd hu
  walk_at "mine go"
  unfold Stop
  rename Fr _ _ _ _ => F; rename News _ _ _ _ => N
  refine ListComp_G F rfl (by decide) rfl (by decide) rfl ?_
  walk_at "mine go"
  unfold Stop
  rename Fr _ _ _ _ => F; rename News _ _ _ _ => N; rename Addr => D0
  refine csrc_tup (σ := RG) (s := ⟨_, _, _, _, _⟩) (its := [Value.int lo t, .none].toArray) (fun _ => [(D0, ({ cls := .type "tuple", data := .seq [Value.int lo t, .none].toArray } : Obj)), (a, instObj 164 d), (d, rngD w (.int lo t) .none k1 k2 k3 k4 tb)]) (fun i c => (i = 0 ∧ c.ys = []) ∨ (i = 1 ∧ c.ys = [.int lo t]) ∨ (i = 2 ∧ ∃ u, c.ys = [.int lo t, u] ∧ UIs u (none))) (fun c => c.ys) (Same s) ⟨[]⟩ rfl ⟨_, rfl, ⟨_, rfl⟩, .head _, fun _ _ _ => .head _⟩ ?sz (fun _ _ _ h => h) Same.rfl F N (.inl ⟨rfl, rfl⟩) ?adr ?turn ?done
  case sz => show 2 ≤ _; rw [sizeLine_eq]; decide
  case adr =>
    rintro i c h
    refine ⟨?_, fun p hp => List.mem_map_of_mem hp⟩
    rcases h with ⟨rfl, h⟩ | ⟨rfl, h⟩ | ⟨rfl, u, h, _⟩ <;> rw [h] <;> rfl
  case turn =>
    rintro i ⟨ys⟩ s₁ v I C₁ D oI oC m₂ E' hi hP hg hoC hm₂ F₁ N₁ hlt hID hDC
    obtain ⟨h₁, k₁, rfl⟩ := hg.ex
    rcases hP with ⟨rfl, rfl⟩ | ⟨rfl, rfl⟩ | ⟨rfl, _⟩
    · obtain rfl : v = Value.int lo t := by have := hi; simp at this; exact this.symm
      walk_at "mine go"
      rename Fr _ _ _ _ => F₂; rename News _ _ _ _ => N₂
      exact CEnd.mk ⟨[.int lo t]⟩ Same.rfl F₂ N₂ (by intro q hq; exact hq) (.inr (.inl ⟨rfl, rfl⟩)) rfl
    · obtain rfl : v = Value.none := by have := hi; simp at this; exact this.symm
      walk_at "mine go"
      rename Fr _ _ _ _ => F₂; rename News _ _ _ _ => N₂
      exact CEnd.mk ⟨[.int lo t, _]⟩ Same.rfl F₂ N₂ (by intro q hq; exact hq) (.inr (.inr ⟨rfl, _, rfl, ⟨_, rfl⟩⟩)) rfl
    · simp at hi
  case done =>
    rintro D ⟨ys⟩ s₁ hP hg hlt h₁ F₁ N₁
    obtain ⟨h₂, k₂, rfl⟩ := hg.ex
    obtain ⟨u, rfl, hu2⟩ : ∃ u, ys = [.int lo t, u] ∧ UIs u (none) := by
      rcases hP with ⟨h, _⟩ | ⟨h, _⟩ | ⟨_, h⟩
      · cases h
      · cases h
      · exact h
    obtain ⟨tu, rfl⟩ := hu2
    walk_at "mine go"
    dsimp only
    refine BackN.mk (by with_reducible assumption) (by with_reducible assumption) (by intro q hq; exact .tail _ (.tail _ hq)) ⟨Nat.succ_pos _, ex_txt ?_⟩
    show (Str.empty ++ Txt.item (Str.ofString "[)") 0 ++ Str.ofString (toString (lo : Int)) ++ T [44] ++ T [] ++ Txt.item (Str.ofString "[)") 1) = _
    rw [it_0, it_1, str_num, jn0]
    simp only [T_append]
    rfl
theorem str_rng1 (w : World) (a d lo n : Nat) (tn : Tok) (k1 k2 k3 k4 tb t : Tok) (hlo : lo < 50) (hn : n < 10 ^ 10) :
    SpcN w 154 [.ref a] 3 60 [(a, instObj 164 d), (d, rngD w (.int lo t) (.int n tn) k1 k2 k3 k4 tb)] (fun r tk => 0 < tk ∧ ∃ t, r = .str (T (rngOut lo (some n))) t) := by
  refine SpcN.intro [("self", .ref a)] (by k_is) (by k_is) rfl (locs rfl) rfl rfl rfl (by decide) ?_
  intro p loose mean mg mb dp un gd outer A₀ base h₀ L s B F N X Tp hd hu
  walk_at "mine go"
  unfold Stop
  rename Fr _ _ _ _ => F; rename News _ _ _ _ => N
  refine ListComp_G F rfl (by decide) rfl (by decide) rfl ?_
  walk_at "mine go"
  unfold Stop
  rename Fr _ _ _ _ => F; rename News _ _ _ _ => N; rename Addr => D0
  refine csrc_tup (σ := RG) (s := ⟨_, _, _, _, _⟩) (its := [Value.int lo t, .int n tn].toArray) (fun _ => [(D0, ({ cls := .type "tuple", data := .seq [Value.int lo t, (.int n tn)].toArray } : Obj)), (a, instObj 164 d), (d, rngD w (.int lo t) (.int n tn) k1 k2 k3 k4 tb)]) (fun i c => (i = 0 ∧ c.ys = []) ∨ (i = 1 ∧ c.ys = [.int lo t]) ∨ (i = 2 ∧ ∃ u, c.ys = [.int lo t, u] ∧ UIs u (some n))) (fun c => c.ys) (Same s) ⟨[]⟩ rfl ⟨_, rfl, ⟨_, rfl⟩, .head _, fun _ _ _ => .head _⟩ ?sz (fun _ _ _ h => h) Same.rfl F N (.inl ⟨rfl, rfl⟩) ?adr ?turn ?done
  case sz => show 2 ≤ _; rw [sizeLine_eq]; decide
  case adr =>
    rintro i c h
    refine ⟨?_, fun p hp => List.mem_map_of_mem hp⟩
    rcases h with ⟨rfl, h⟩ | ⟨rfl, h⟩ | ⟨rfl, u, h, _⟩ <;> rw [h] <;> rfl
  case turn =>
    rintro i ⟨ys⟩ s₁ v I C₁ D oI oC m₂ E' hi hP hg hoC hm₂ F₁ N₁ hlt hID hDC
    obtain ⟨h₁, k₁, rfl⟩ := hg.ex
    rcases hP with ⟨rfl, rfl⟩ | ⟨rfl, rfl⟩ | ⟨rfl, _⟩
    · obtain rfl : v = Value.int lo t := by have := hi; simp at this; exact this.symm
      walk_at "mine go"
      rename Fr _ _ _ _ => F₂; rename News _ _ _ _ => N₂
      exact CEnd.mk ⟨[.int lo t]⟩ Same.rfl F₂ N₂ (by intro q hq; exact hq) (.inr (.inl ⟨rfl, rfl⟩)) rfl
    · obtain rfl : v = Value.int n tn := by have := hi; simp at this; exact this.symm
      walk_at "mine go"
      rename Fr _ _ _ _ => F₂; rename News _ _ _ _ => N₂
      exact CEnd.mk ⟨[.int lo t, _]⟩ Same.rfl F₂ N₂ (by intro q hq; exact hq) (.inr (.inr ⟨rfl, _, rfl, ⟨_, rfl⟩⟩)) rfl
    · simp at hi
  case done =>
    rintro D ⟨ys⟩ s₁ hP hg hlt h₁ F₁ N₁
    obtain ⟨h₂, k₂, rfl⟩ := hg.ex
    obtain ⟨u, rfl, hu2⟩ : ∃ u, ys = [.int lo t, u] ∧ UIs u (some n) := by
      rcases hP with ⟨h, _⟩ | ⟨h, _⟩ | ⟨_, h⟩
      · cases h
      · cases h
      · exact h
    obtain ⟨tu, rfl⟩ := hu2
    walk_at "mine go"
    dsimp only
    refine BackN.mk (by with_reducible assumption) (by with_reducible assumption) (by intro q hq; exact .tail _ (.tail _ hq)) ⟨Nat.succ_pos _, ex_txt ?_⟩
    show (Str.empty ++ Txt.item (Str.ofString "[)") 0 ++ Str.ofString (toString (lo : Int)) ++ T [44] ++ Str.ofString (toString (n : Int)) ++ Txt.item (Str.ofString "[)") 1) = _
    rw [it_0, it_1, str_num, str_num, jn0]
    simp only [T_append]
    rfl
end PartX1_
section PartX2_
local macro_rules | `(tactic| walk_at "call ref") => `(tactic| refine Stop.mk ?_)
theorem anew_X2 : True := by
  w_top off
  exact trivial
local macro_rules | `(tactic| walk_at "exec If") => `(tactic| refine wpAny_If ?_)
local macro_rules | `(tactic| walk_at "execs nil") => `(tactic| refine wpAny_execs_nil ?_)
local macro_rules | `(tactic| walk_at "execs cons") => `(tactic| ((with_reducible refine wpAny_execs_cons ?_); try dsimp only))
local macro_rules | `(tactic| walk_at "call type:str") => `(tactic| ((with_reducible show wpAny _ _ (call (Value.type "str") [Value.ref _]) _ _ _); refine Stop.mk ?_))
theorem rng_len (lo : Nat) (hi : Option Nat) (hlo : lo < 50) (hhi : ∀ n, hi = some n → n < 10 ^ 10) : (rngOut lo hi).length ≤ 50 := by
  have h1 := num_len (z := (lo : Int)) (by omega) (by omega)
  unfold rngOut
  cases hi with
  | none => simp only [List.length_append, List.length_cons, List.length_nil]; omega
  | some n =>
    have := hhi n rfl
    have h2 := num_len (z := (n : Int)) (by omega) (by omega)
    simp only [List.length_append, List.length_cons, List.length_nil]; omega
theorem str_rng (w : World) (a d lo : Nat) (hi : Option Nat) (v2 : Value) (k1 k2 k3 k4 tb t : Tok) (h2 : HiIs v2 hi) (hlo : lo < 50) (hhi : ∀ n, hi = some n → n < 10 ^ 10) :
    SpcN w 154 [.ref a] 3 60 [(a, instObj 164 d), (d, rngD w (.int lo t) v2 k1 k2 k3 k4 tb)] (fun r tk => 0 < tk ∧ ∃ t, r = .str (T (rngOut lo hi)) t) := by
  cases hi with
  | none => cases h2; exact str_rng0 w a d lo k1 k2 k3 k4 tb t hlo
  | some n => obtain ⟨tn, rfl⟩ := h2; exact str_rng1 w a d lo n tn k1 k2 k3 k4 tb t hlo (hhi n rfl)
theorem lit_rng (w : World) (a d lo : Nat) (hi : Option Nat) (v2 : Value) (k1 k2 k3 k4 tb t : Tok) (h2 : HiIs v2 hi) (hlo : lo < 50) (hhi : ∀ n, hi = some n → n < 10 ^ 10) :
    SpcN w 127 [.ref a] 6 120 [(a, instObj 164 d), (d, rngD w (.int lo t) v2 k1 k2 k3 k4 tb)] (fun r _ => ∃ t, r = .str (T (litOut (rngOut lo hi))) t) := by
  refine SpcN.intro [("value", .ref a)] (by k_is) (by k_is) rfl (locs rfl) rfl rfl rfl (by decide) ?_
  intro p loose mean mg mb dp un gd outer A₀ base h₀ L s B F N X Tp hd hu
  have h5 := rng_len lo hi hlo hhi
  have S := str_rng w a d lo hi v2 k1 k2 k3 k4 tb t h2 hlo hhi
  walk_at "mine go"
  unfold Stop
  rename Fr _ _ _ _ => F; rename News _ _ _ _ => N
  refine kso_call (x := a) (C := 164) (f := 154) (ox := instObj 164 d) (od := some (rngD w (.int lo t) v2 k1 k2 k3 k4 tb)) (by simp only [units_in1]; omega) (X.keeps F.keep) ⟨(N _ (.head _)).1, rfl, rfl, (N _ (.tail _ (.head _))).1⟩ (by k_is) (by k_is) ?_
  refine SpcN.use1 (dp := dp) (un := un + 2) S (by walk_at "mine g") (fun q hq => hq) (by walk_at "mine g") ?_
  rintro v h' tk' F' N' ⟨htk, t, rfl⟩
  dsimp only [StrBack]
  have hl1 : (T (rngOut lo hi)).length < 2^24 := by rw [T_len]; omega
  have hd2 := dbl_len 39 (rngOut lo hi)
  have hd3 : (T (StrLaws.dbl 39 (rngOut lo hi))).length < 2^24 := by rw [T_len]; omega
  walk_at "mine go"
  dsimp only
  exact BackN.mk (by with_reducible assumption) (by with_reducible assumption) (fun q hq => hq) ⟨_, rfl⟩
end PartX2_
section PartX3_
local macro_rules | `(tactic| walk_at "call ref") => `(tactic| refine Stop.mk ?_)
theorem anew_X3 : True := by
  w_top off
  exact trivial
local macro_rules | `(tactic| walk_at "binaryOp Add str str") => `(tactic| (refine' r_add ?l ?_; (case l => simp only [List.length_append, List.length_cons, List.length_nil]; omega); intro _ _))
theorem same_rng0 (w : World) (a d lo : Nat) (k1 k2 k3 k4 tb t tt : Tok) (hlo : lo < 50) :
    SpcN w 218 [.ref a, .str (T (rngOut lo none)) tt] 6 80 [(a, instObj 164 d), (d, rngD w (.int lo t) .none k1 k2 k3 k4 tb)] (fun r _ => r = .bool true) := by
  refine SpcN.intro [("value", .ref a), ("told", .str (T (rngOut lo none)) tt)] (by k_is) (by k_is) rfl (locs rfl) rfl rfl rfl (by decide) ?_
  intro p loose mean mg mb dp un gd outer A₀ base h₀ L s B F N X Tp hd hu
  have hn1 := num_len (z := (lo : Int)) (by omega) (by omega)
  walk_at "mine go"
  exact BackN.mk (by with_reducible assumption) (by with_reducible assumption) (fun q hq => hq) (congrArg Value.bool (beq_iff_eq.mpr rfl))
theorem same_rng1 (w : World) (a d lo n : Nat) (tn k1 k2 k3 k4 tb t tt : Tok) (hlo : lo < 50) (hn : n < 10 ^ 10) :
    SpcN w 218 [.ref a, .str (T (rngOut lo (some n))) tt] 6 80 [(a, instObj 164 d), (d, rngD w (.int lo t) (.int n tn) k1 k2 k3 k4 tb)] (fun r _ => r = .bool true) := by
  refine SpcN.intro [("value", .ref a), ("told", .str (T (rngOut lo (some n))) tt)] (by k_is) (by k_is) rfl (locs rfl) rfl rfl rfl (by decide) ?_
  intro p loose mean mg mb dp un gd outer A₀ base h₀ L s B F N X Tp hd hu
  have hn1 := num_len (z := (lo : Int)) (by omega) (by omega)
  have hn2 := num_len (z := (n : Int)) (by omega) (by omega)
  walk_at "mine go"
  exact BackN.mk (by with_reducible assumption) (by with_reducible assumption) (fun q hq => hq) (congrArg Value.bool (beq_iff_eq.mpr rfl))
end PartX3_
section PartL8_
set_option maxRecDepth 100000
set_option maxHeartbeats 4000000
/-- the law's own end -/
def LawEnd (h₀ : Heap) (s : Shared) (fl : Flow) (s' : Shared) : Prop :=
  retv fl = .bool true ∧ (∀ b o, h₀.get? b = some o → s'.heap.get? b = some o) ∧ (∃ ps, s'.heap.get? 90 = some (tabObj ps)) ∧ AllBare s'.gens ∧ s'.os = s.os

theorem law_intro {w : World} {cw : ClaimW} {cl : Str → Option Addr} {mean' : ExcName → Option Value} {args : List WData} {s₁ : Shared} {p₁ : Program} {loose₁ : List Str} {mean : ExcName → Option Value} {mg mb : Str → Option Value} {sc : Addr} {Pre : Heap → Prop}
    {name qual : Str} {params : Arguments} {body : List Stmt} {scope : Scope} {dV kV doc pm cdv ct oc : Value} {an od : Option Addr} {osl : Array (Option Value)} (binds : List (Str × Value))
    (X : (hd.heap_39 w.params).In s₁.heap) (T : Top p₁ loose₁ mean mg mb s₁.heap) (hT : TabsAt [(94, 90)] s₁.heap) (hK : noTabs (hd.heap_39 w.params) = true) (hgens : s₁.gens = #[]) (hpre : Pre (ghostOf s₁.heap [(94, 90)]))
    (ho : (hd.heap_39 w.params).lookup 230 = some ⟨oc, od, .func (fnOf name qual params body scope dV kV doc pm an cdv ct), osl⟩) (hcd : codeIn (hd.heap_39 w.params) cdv qual = true)
    (hbind : bindArgs (fnOf name qual params body scope dV kV doc pm an cdv ct) ⟨[.ref sc], []⟩ = pure binds) (hloc : ∀ y ∈ binds, scope.names.lookup y.1 = some .local)
    (hco : scope.isCoroutine = false) (hgen : scope.isGenerator = false) (hk : scope.kind = .function) (hcell : ∀ x ∈ scope.names, x.2 ≠ .cell)
    (h : ∀ (p : Program) (loose : List Str) (gd : Option (List Code)) (A₀ : Around) (h₀ : Heap) (L : Addr) (s : Shared),
      Below A₀ h₀ [] h₀ → Fr h₀ L s.heap (fun y => binds.reverse.lookup y) → News h₀ L s.heap [(90, tabObj #[])] → (hd.heap_39 w.params).In h₀ → Top p loose mean mg mb h₀ → CodeHd h₀ 94 90 → h₀.get? 90 = none → AllBare s.gens → Pre h₀ → 90 < L →
      wpAny (model PySem.Challenge.rw_ew0021_01.row.prog w) (ktrTop (1 + claimMargin + 1) 7 gd qual scope L 230 cdv [] []) (execs body (envOf qual scope L 230 cdv)) (LawEnd h₀ s) (fun _ _ => False) s)
    (hend : ∀ s', OldK s₁.heap s'.heap → s'.os = s₁.os → AllBare s'.gens → GoodWG cw cl mean' args s₁ (.ok (.ret (.bool true))) s') :
    codeAny (model PySem.Challenge.rw_ew0021_01.row.prog w) callerA (.call (.ref 230) ⟨[.ref sc], []⟩) (GoodWG cw cl mean' args s₁) s₁ := by
  have hP := (hT _ (.head _)).2
  have hC := (hT _ (.head _)).1
  refine codeAny_call_def (fd := fnOf name qual params body scope dV kV doc pm an cdv ct) (body := body) (binds := binds) (by decide +kernel) (X _ _ ho) rfl T.nolimit (codeRec_of X hcd) rfl (BindsTo.of_eq hbind) hcell hloc (fun h₁ hns hk₁ => ?_) hco hgen hk
  have F₁ : Fr s₁.heap s₁.heap.objs.size h₁ (fun y => binds.reverse.lookup y) := ⟨hns, hk₁, Nat.le_refl _⟩
  have F₂ := ghost_fr hT F₁
  have N₂ : News (ghostOf s₁.heap [(94, 90)]) s₁.heap.objs.size h₁ [(90, tabObj #[])] := ghost_news hT F₁ News.nil
  have h90 : (ghostOf s₁.heap [(94, 90)]).get? 90 = none := (N₂ _ (.head _)).2.2
  have hC₂ := (ghost_code hT).1
  have h9 := h _ _ (some []) callerA (ghostOf s₁.heap [(94, 90)]) s₁.heap.objs.size { s₁ with heap := h₁, toks := s₁.toks + binds.length } (ghost_below hT) F₂ N₂ (ghost_K hT X hK) (ghost_top hT T) hC₂ h90 (by show AllBare s₁.gens; rw [hgens]; exact fun g hg => absurd hg (Array.not_mem_empty g)) hpre (Heap.lt_size hP)
  refine wpAny_mono (A := callerA.deeper (envOf qual scope s₁.heap.objs.size 230 cdv)) h9 ?_ (fun _ _ x => x.elim)
  rintro fl s' ⟨r, k, ⟨ps, hps⟩, hg', ho'⟩
  have keep : ∀ b o, b ≠ 90 → s₁.heap.get? b = some o → s'.heap.get? b = some o := fun b o hb e => k b o (ghost_ne e (by simpa using hb))
  have fin := hend s' ⟨fun b o e => ?_, fun b o e => ?_⟩ ho' hg'
  · cases fl <;> (first | (cases r; exact fin) | (cases r))
  · by_cases hb : b = 90
    · subst hb
      rw [hP] at e; cases e
      exact .inr (.inl ⟨(hC.tab hP).isCodeTable, rfl, #[], ps, rfl, by rw [Array.empty_append]; exact hps⟩)
    · exact .inl (keep b o hb e)
  · by_cases hb : b = 90
    · subst hb; exact ⟨_, hps⟩
    · exact ⟨o, keep b o hb e⟩
/-- whole numbers that are no less than nought -/
def Nums (vs : List Value) (ns : List Nat) : Prop := vs.length = ns.length ∧ ∀ (i : Nat) (v : Value) (n : Nat), vs[i]? = some v → ns[i]? = some n → ∃ t, v = .int n t
theorem Nums.nil : Nums [] [] := ⟨rfl, fun _ _ _ h => by cases h⟩
theorem Nums.snoc {vs : List Value} {ns : List Nat} {n : Nat} (h : Nums vs ns) (t : Tok) : Nums (vs ++ [.int n t]) (ns ++ [n]) := by
  refine ⟨by rw [List.length_append, List.length_append, h.1]; rfl, fun i v' r' h1 h2 => ?_⟩
  rcases Nat.lt_trichotomy i vs.length with hi | hi | hi
  · rw [List.getElem?_append_left hi] at h1
    rw [List.getElem?_append_left (h.1 ▸ hi)] at h2
    exact h.2 i v' r' h1 h2
  · subst hi
    rw [List.getElem?_append_right (Nat.le_refl _), Nat.sub_self] at h1
    rw [h.1, List.getElem?_append_right (Nat.le_refl _), Nat.sub_self] at h2
    cases h1; cases h2; exact ⟨t, rfl⟩
  · rw [List.getElem?_eq_none (by rw [List.length_append]; exact hi)] at h1
    cases h1
theorem ints_at {vs : List Value} {zs : List Int} (h : IntsAre vs zs) {i : Nat} {v : Value} (hv : vs[i]? = some v) : ∃ z t, zs[i]? = some z ∧ v = .int z t := by
  induction h generalizing i with
  | nil => cases hv
  | cons z t _ ih =>
    cases i with
    | zero => cases hv; exact ⟨z, t, rfl, rfl⟩
    | succ i => exact ih hv
theorem Nums.of_ints {vs : List Value} {ns : List Nat} (h : IntsAre vs (ns.map fun n : Nat => (n : Int))) : Nums vs ns := by
  refine ⟨by rw [IntsAre.length h, List.length_map], fun i v n h1 h2 => ?_⟩
  obtain ⟨z, t, hz, rfl⟩ := ints_at h h1
  rw [List.getElem?_map, h2] at hz
  cases hz
  exact ⟨t, rfl⟩
theorem Nums.append {vs us : List Value} {ns ms : List Nat} (h : Nums vs ns) (g : Nums us ms) : Nums (vs ++ us) (ns ++ ms) := by
  refine ⟨by rw [List.length_append, List.length_append, h.1, g.1], fun i v n h1 h2 => ?_⟩
  rcases Nat.lt_or_ge i vs.length with hi | hi
  · rw [List.getElem?_append_left hi] at h1
    rw [List.getElem?_append_left (h.1 ▸ hi)] at h2
    exact h.2 i v n h1 h2
  · rw [List.getElem?_append_right hi] at h1
    rw [List.getElem?_append_right (h.1 ▸ hi)] at h2
    exact g.2 _ v n h1 (h.1 ▸ h2)
theorem tail_ints (a b c d : Tok) (n : Nat) : IntsAre (slicePick #[Value.int 0 a, Value.int 7 b, Value.int 159 c, Value.int 33 d] (some (n : Int)) none none).toList ((([0, 7, 159, 33] : List Nat).drop n).map fun n : Nat => (n : Int)) := by
  have h : IntsAre [Value.int 0 a, Value.int 7 b, Value.int 159 c, Value.int 33 d] [0, 7, 159, 33] := .cons _ _ (.cons _ _ (.cons _ _ (.cons _ _ .nil)))
  have h2 := kmk_from h (x := (n : Int)) (Int.natCast_nonneg n)
  rw [Int.toNat_natCast] at h2
  rw [List.map_drop]
  exact h2
/-- a number out of a list -/
theorem r_itemN {prog : Program} {w : World} {A : Around} {E : Value → Shared → Prop} {s : Shared} {h₀ : Heap} {L : Addr} {news : List (Addr × Obj)} {value slice : Expr} {l : Addr} {vs : List Value} {ns : List Nat} {i k : Nat} {z : Int} {u : Tok} {Q : Value → Shared → Prop}
    (N : News h₀ L s.heap news) (hm : (l, ({ cls := .type "list", data := .seq vs.toArray k } : Obj)) ∈ news) (h : Nums vs ns) (hz : z = i) (hi : i < ns.length) (hi2 : i < 1000) (hQ : ∀ t, Q (.int (ns.getD i 0 : Nat) t) s)
    (hs : subscripted slice false (.ref l) (.int z u) = operate [.ref l, .int z u] (getItem (.ref l) (.int z u)) := by with_unfolding_all rfl) (hg : ∀ r, letTemporaryGo value (.ref l) r = pure () := by intro _; with_unfolding_all rfl) :
    wpAny (model prog w) A (subscriptTail value slice (.ref l) (.int z u)) Q E s := by
  subst hz
  have hiv : i < vs.length := h.1 ▸ hi
  obtain ⟨v, hv⟩ : ∃ v, vs[i]? = some v := ⟨_, List.getElem?_eq_getElem hiv⟩
  have hn : ns[i]? = some (ns.getD i 0) := by rw [List.getD_eq_getElem?_getD, List.getElem?_eq_getElem hi, Option.getD_some]
  obtain ⟨t, rfl⟩ := h.2 i v _ hv hn
  exact item_listL ⟨_, (N _ hm).1, rfl, _, rfl⟩ (Int.natCast_nonneg i) (by omega) (by rw [Int.toNat_natCast]; exact hv) (hQ t) hs hg
end PartL8_
section PartL9_
set_option maxRecDepth 100000
set_option maxHeartbeats 4000000
open LCg (lst NsObj lst_snoc ns_obj fr_but news_but)

/-- the end of a turn of a loop over pairs -/
def PairEnd {σ : Type} (ps : σ → List (Str × Value)) (nw : σ → List (Addr × Obj)) (P : Nat → σ → Prop) (h₀ : Heap) (L : Addr) (own : List (Addr × Obj)) (i : Nat) (s : Shared) (s₃ : Shared) : Prop :=
  ∃ c' h' tk' m', s₃ = { s with heap := h', toks := tk' } ∧ Fr h₀ L h' m' ∧ News h₀ L h' (own ++ nw c') ∧ (∀ p ∈ ps c', m' p.1 = some p.2) ∧ P (i + 1) c'
theorem PairEnd.mk {σ : Type} {ps : σ → List (Str × Value)} {nw : σ → List (Addr × Obj)} {P : Nat → σ → Prop} {h₀ : Heap} {L : Addr} {own all : List (Addr × Obj)} {i : Nat} {s : Shared} (c' : σ) {h' : Heap} {tk' : Nat} {m' : Str → Option Value}
    (F : Fr h₀ L h' m') (N : News h₀ L h' all) (hs : ∀ q ∈ own ++ nw c', q ∈ all) (hm : ∀ p ∈ ps c', m' p.1 = some p.2) (hp : P (i + 1) c') : PairEnd ps nw P h₀ L own i s { s with heap := h', toks := tk' } :=
  ⟨c', h', tk', m', rfl, F, fun q hq => N q (hs q hq), hm, hp⟩

/-- the places of a walk over pairs -/
structure Places (h₀ : Heap) (L : Addr) (fp wr : List Addr) : Prop where
  loc : L ∉ fp
  new : ∀ b ∈ wr, h₀.get? b = none

/-- for x, y in pairs -/
theorem for_pair {σ : Type} {prog : Program} {w : World} {A : Around} {s : Shared} {env : Env} {h₀ : Heap} {L I : Addr} {Q : Flow → Shared → Prop} {x y : Str} {px py tp : Pos} {k : Nat} {body : List Stmt} {m : Str → Option Value} {fp wr : List Addr} {n : Nat} {V : Nat → Value → Value → Prop} {Pv Md : Nat → Value → Heap → Prop} {St : Nat → Heap → Prop}
    (ps : σ → List (Str × Value)) (nw : σ → List (Addr × Obj)) (P : Nat → σ → Prop) (c₀ : σ) (hh : A.handled = none)
    (hL : env.locals = L) (hx : env.kindOf x = some .local) (hy : env.kindOf y = some .local) (hk : (env.scope.kind == .class || (env.scope.kind == .module && env.locals != env.globals)) = false)
    (W : KTurns prog w A (.Tuple [.Name x px, .Name y py] k tp) I fp wr n Pv Md St) (hPv : ∀ i v h, Pv i v h → ∃ t v₁ v₂, v = .ref t ∧ IsTup h t #[v₁, v₂] ∧ V i v₁ v₂)
    (hst : St 0 s.heap) (pl : Places h₀ L fp wr) (hnw : ∀ c i, P i c → ∀ p ∈ nw c, p.1 ∉ wr)
    (F : Fr h₀ L s.heap m) (N : News h₀ L s.heap (nw c₀)) (h0 : ∀ p ∈ ps c₀, m p.1 = some p.2) (hp0 : P 0 c₀)
    (turn : ∀ i (c : σ) u h₁ tk₁ v₁ v₂ own, i < n → V i v₁ v₂ → P i c → Fr h₀ L h₁ (kstB u ((y, v₂) :: (x, v₁) :: ps c)) → News h₀ L h₁ (own ++ nw c) →
      wpAny (model prog w) A (execs body env) (fun f s₃ => match f with
            | .ret v => Q (.ret v) s₃
            | .brk => Q .next s₃
            | _ => PairEnd ps nw P h₀ L own i s s₃) (fun _ _ => False) { s with heap := h₁, toks := tk₁ })
    (done : ∀ (c : σ) u h₁ tk₁, P n c → Fr h₀ L h₁ (kstB u (ps c)) → News h₀ L h₁ (nw c) → Q .next { s with heap := h₁, toks := tk₁ }) :
    codeAny (model prog w) A (.forLoop (.Tuple [.Name x px, .Name y py] k tp) (.ref I) body [] env) (fun r s' => match r with | .ok f => Q f s' | .error e => cameBackBy (model prog w) A env (fun _ _ => False) e s') s := by
  subst hL
  have never : ∀ e s', (fun _ _ => False : Value → Shared → Prop) e s' → notedBy (model prog w) A env (fun e s' => cameBackBy (model prog w) A env (fun _ _ => False) e s') e s' := fun _ _ h => h.elim
  have hLw : env.locals ∉ wr := fun h => pl.loc (W.sub _ h)
  have old : ∀ b o, h₀.get? b = some o → b ∉ wr := fun b o e hb => by rw [pl.new b hb] at e; cases e
  refine codeAny_forLoop_any (fun k s' => ∃ h' tk m' i c, s' = { s with heap := h', toks := tk } ∧ St i h' ∧ Fr h₀ env.locals h' m' ∧ News h₀ env.locals h' (nw c) ∧ (∀ p ∈ ps c, m' p.1 = some p.2) ∧ P i c ∧ i ≤ n ∧ k = n + 1 - i) ?_ (n + 1)
    ⟨s.heap, s.toks, m, 0, c₀, rfl, hst, F, N, h0, hp0, Nat.zero_le _, rfl⟩
  rintro k s' ⟨h', tk, m', i, c, rfl, hst', F', N', h1', hP', hi, rfl⟩
  have next : ∀ h₁ : Heap, (∀ b o, b ∉ wr → h'.get? b = some o → h₁.get? b = some o) → Fr h₀ env.locals h₁ m' ∧ News h₀ env.locals h₁ (nw c) := fun h₁ hk₁ =>
    ⟨⟨F'.ns.at' fun o e => hk₁ _ o hLw e, fun b o e => hk₁ b o (old b o e) (F'.keep b o e), F'.above⟩,
      fun p hp => ⟨hk₁ _ _ (hnw c i hP' p hp) (N' p hp).1, (N' p hp).2⟩⟩
  by_cases hlt : i < n
  · refine W.item i _ _ _ hlt hst' fun v h₁ tk₁ hMd hk₁ => ?_
    refine W.go i v _ _ _ hMd fun h₂ hP₂ hst₂ hk₂ => ?_
    obtain ⟨F₂, N₂⟩ := next h₂ fun b o hb e => hk₂ b o hb (hk₁ b o hb e)
    obtain ⟨t, v₁, v₂, rfl, ht, hV⟩ := hPv i v h₂ hP₂
    refine wpAny_mono (E := fun _ _ => False) ?_ (fun _ _ h => h) never
    refine assign_Tuple_tuple hh ht rfl rfl fun h₅ he => ?_
    have he' : ∀ b o, h₂.get? b = some o → h₅.get? b = some o := fun b o e => he b o (Nat.ne_of_lt (Heap.lt_size e)) e
    have F₅ := F₂.keeps he'
    have N₅ := N₂.keeps he'
    have hst₅ : St (i + 1) h₅ := W.frame _ _ _ hst₂ fun b _ o e => he' b o e
    refine assignInOrder_cons (wpAny_assign_Name (wpAny_storeName_local hx F₅.ns (fun h₆ hn₆ hs₆ => ?_) hk))
    have F₆ := F₅.set hn₆ hs₆
    have N₆ : News h₀ env.locals h₆ (nw c) := N₅.set hs₆
    have hst₆ : St (i + 1) h₆ := W.frame _ _ _ hst₅ fun b hb o e => (hs₆.2 b fun q => pl.loc (q ▸ hb)).trans e
    refine assignInOrder_cons (wpAny_assign_Name (wpAny_storeName_local hy F₆.ns (fun h₇ hn₇ hs₇ => ?_) hk))
    refine assignInOrder_nil ?_
    have F₇ := F₆.set hn₇ hs₇
    have N₇ : News h₀ env.locals h₇ (nw c) := N₆.set hs₇
    have hst₇ : St (i + 1) h₇ := W.frame _ _ _ hst₆ fun b hb o e => (hs₇.2 b fun q => pl.loc (q ▸ hb)).trans e
    have e₂ : (fun z => if z = y then some v₂ else if z = x then some v₁ else m' z) = kstB m' ((y, v₂) :: (x, v₁) :: ps c) := by
      funext z
      show (if z = y then some v₂ else if z = x then some v₁ else m' z) = if z = y then some v₂ else if z = x then some v₁ else kstB m' (ps c) z
      rw [kstB_eq h1' (fun _ => rfl)]
    have F₈ : Fr h₀ env.locals h₇ (kstB m' ((y, v₂) :: (x, v₁) :: ps c)) := e₂ ▸ F₇
    have Nown : News h₀ env.locals h₇ (PyProof.Rows.ownOf h₀ fp h₇) := news_ownOf pl.loc
    refine wpAny_mono (turn i c m' h₇ _ v₁ v₂ (PyProof.Rows.ownOf h₀ fp h₇) hlt hV hP' F₈ (Nown.append N₇)) (fun f s₃ h₃ => ?_) fun _ _ q => q.elim
    have again : PairEnd ps nw P h₀ env.locals (PyProof.Rows.ownOf h₀ fp h₇) i s s₃ → ∃ m, m < n + 1 - i ∧ ∃ h' tk m' i c, s₃ = { s with heap := h', toks := tk } ∧ St i h' ∧ Fr h₀ env.locals h' m' ∧ News h₀ env.locals h' (nw c) ∧ (∀ p ∈ ps c, m' p.1 = some p.2) ∧ P i c ∧ i ≤ n ∧ m = n + 1 - i := by
      rintro ⟨c', h₃', tk₃, m₃, rfl, F₃, N₃, hm₃, hP₃⟩
      refine ⟨n + 1 - (i + 1), by omega, h₃', tk₃, m₃, i + 1, c', rfl, W.frame _ _ _ hst₇ fun b hb o e => ?_, F₃, N₃.right, hm₃, hP₃, hlt, rfl⟩
      cases hn : h₀.get? b with
      | some o₀ =>
        have : o₀ = o := by have q := F₇.keep b o₀ hn; rw [e] at q; exact (Option.some.inj q).symm
        exact this ▸ F₃.keep b o₀ hn
      | none => exact (N₃ _ (List.mem_append_left _ (mem_ownOf hb hn e))).1
    cases f with
    | ret v => exact h₃
    | brk => exact h₃
    | next => exact again h₃
    | cont => exact again h₃
  · have hin : i = n := by omega
    subst hin
    refine W.done _ _ _ hst' fun h₁ tk₁ hk₁ => ?_
    obtain ⟨F₁, N₁⟩ := next h₁ hk₁
    exact wpAny_execs_nil (done c m' h₁ tk₁ hP' (fr_of_pins F₁ h1') N₁)

/-- the end of an element of a comprehension over pairs -/
def CEndP {σ : Type} (nw : σ → List (Addr × Obj)) (P : Nat → σ → Prop) (out : σ → List Value) (Gd : Shared → Prop) (h₀ : Heap) (L : Addr) (m : Str → Option Value) (own : List (Addr × Obj)) (C : Addr) (oC : Obj) (D : Addr) (i : Nat) (c : σ) (y : Value) (s₃ : Shared) : Prop :=
  ∃ c', Gd s₃ ∧ Fr h₀ L s₃.heap m ∧ News h₀ L s₃.heap (own ++ (C, oC) :: (D, lst (out c)) :: nw c') ∧ P (i + 1) c' ∧ out c' = out c ++ [y]
theorem CEndP.mk {σ : Type} {nw : σ → List (Addr × Obj)} {P : Nat → σ → Prop} {out : σ → List Value} {Gd : Shared → Prop} {h₀ : Heap} {L : Addr} {m : Str → Option Value} {own : List (Addr × Obj)} {C : Addr} {oC : Obj} {D : Addr} {i : Nat} {c : σ} {y : Value} {s₃ : Shared} (c' : σ)
    (g : Gd s₃) (F : Fr h₀ L s₃.heap m) {all : List (Addr × Obj)} (N : News h₀ L s₃.heap all) (hm : ∀ q ∈ own ++ (C, oC) :: (D, lst (out c)) :: nw c', q ∈ all) (p : P (i + 1) c') (ho : out c' = out c ++ [y]) : CEndP nw P out Gd h₀ L m own C oC D i c y s₃ :=
  ⟨c', g, F, fun q hq => N q (hm q hq), p, ho⟩

/-- what a source of pairs has to show -/
def CSrcP (prog : Program) (w : World) (A : Around) (h₀ : Heap) (L : Addr) (m : Str → Option Value) (scope : Scope) (cl : List (Str × Addr)) (env : Env) (x y : Str) (px py tp : Pos) (k : Nat) (elt : Expr) (Fin : Addr → List Value → List (Addr × Obj) → Shared → Prop) (it : Value) (s₂ : Shared) : Prop :=
  ∃ (σ : Type) (nw : σ → List (Addr × Obj)) (P : Nat → σ → Prop) (out : σ → List Value) (Gd : Shared → Prop) (c₀ : σ) (I n : Nat) (fp wr : List Addr) (V : Nat → Value → Value → Prop) (Pv Md : Nat → Value → Heap → Prop) (St : Nat → Heap → Prop),
    it = .ref I ∧ KTurns prog w A (.Tuple [.Name x px, .Name y py] k tp) I fp wr n Pv Md St ∧ (∀ i v h, Pv i v h → ∃ t v₁ v₂, v = .ref t ∧ IsTup h t #[v₁, v₂] ∧ V i v₁ v₂) ∧ (∀ (s : Shared) (Q : Value → Shared → Prop) (E : Value → Shared → Prop), St 0 s.heap → Q (.ref I) s → wpAny (model prog w) A (pyIter (.ref I)) Q E s) ∧ A.handled = none ∧ n ≤ sizeLine ∧ St 0 s₂.heap ∧ (∀ b ∈ fp, b < s₂.heap.objs.size) ∧ Places h₀ L fp wr ∧
    (∀ s h tk, Gd s → Gd { s with heap := h, toks := tk }) ∧ Gd s₂ ∧ Fr h₀ L s₂.heap m ∧ News h₀ L s₂.heap (nw c₀) ∧ (∀ i c, P i c → (out c).length = i ∧ ∀ p ∈ nw c, p.1 ∉ wr ∧ p.1 < s₂.heap.objs.size) ∧ P 0 c₀ ∧
    (∀ (i : Nat) (c : σ) (s₁ : Shared) (v₁ v₂ : Value) (own : List (Addr × Obj)) (C D : Addr) (oC : Obj) (m₂ : Str → Option Value) (E' : Value → Shared → Prop), i < n → V i v₁ v₂ → P i c → Gd s₁ → NsObj oC m₂ → m₂ x = some v₁ → m₂ y = some v₂ → Fr h₀ L s₁.heap m → News h₀ L s₁.heap (own ++ (C, oC) :: (D, lst (out c)) :: nw c) →
      (∀ p ∈ own ++ nw c, p.1 < D) → (∀ p ∈ own, p.1 ∈ fp) → D < C → wpAny (model prog w) A (eval elt (compEnvC scope cl C env)) (CEndP nw P out Gd h₀ L m own C oC D i c) E' s₁) ∧
    (∀ (D : Addr) (c : σ) (s₁ : Shared), P n c → Gd s₁ → (∀ p ∈ nw c, p.1 < D) → Fin D (out c) (nw c) s₁)

section
variable {prog : Program} {w : World} {A : Around} {E : Value → Shared → Prop} {s : Shared} {h₀ : Heap} {L : Addr} {m : Str → Option Value} {env : Env}

theorem comp_pair {elt iter : Expr} {x y : Str} {px py tp : Pos} {k : Nat} {scope : Scope} {cl : List (Str × Addr)} {pos : Pos} {Fin : Addr → List Value → List (Addr × Obj) → Shared → Prop} {it : Value} {RR : Value → Addr → Result → Shared → Prop}
    (hcell : ∀ z ∈ scope.names, z.2 ≠ .cell) (hkind : scope.kind = .function) (hx : scope.names.lookup x = some .local) (hy : scope.names.lookup y = some .local) (hxy : x ≠ y)
    (src : CSrcP prog w A h₀ L m scope cl env x y px py tp k elt Fin it s)
    (hRR : ∀ D C s' m' ys news', Fr h₀ L s'.heap m → News h₀ L s'.heap ((D, lst ys) :: news') → s'.heap.Ns C m' → h₀.get? C = none → C ≠ L → (∀ p ∈ (D, lst ys) :: news', p.1 ≠ C) → Fin D ys news' s' → RR (.ref D) C (.ok .next) s') :
    wpAny (model prog w) A (newList []) (fun acc s₃ => wpAny (model prog w) A (newFunctionEnv scope env.globals cl [] env.qual none .none (some env)) (fun cenv s₄ =>
      codeAny (model prog w) A (.compStart (.ListComp elt [⟨.Tuple [.Name x px, .Name y py] k tp, iter, [], 0⟩] scope pos) 0 it acc { cenv with scope := relabel scope env }) (RR acc cenv.locals) s₄) E s₃) E s := by
  obtain ⟨σ, nw, P, out, Gd, c₀, I, n, fp, wr, V, Pv, Md, St, rfl, W, hPv, hself, hh, hsz, hst, hfp, pl, hGd, hgd, F, N, hP, hp0, turn, done⟩ := src
  refine wpAny_newObj_type (wpAny_newFunctionEnv hcell (by intro y hy; simp at hy) (fun h₁ hns₁ hsb₁ => ?_) hkind)
  dsimp only at hns₁ hsb₁ ⊢
  generalize hH : s.heap.push { cls := .type "list", dict := none, data := .seq ([] : List Value).toArray } = H at hns₁ hsb₁ ⊢
  generalize hDe : s.heap.objs.size = D at *
  have hC : H.objs.size = D + 1 := by rw [← hH, Heap.size_push, hDe]
  generalize hCe : H.objs.size = C at *
  have hDC : D < C := by rw [hC]; exact Nat.lt_succ_self _
  have old : ∀ b o, s.heap.get? b = some o → h₁.get? b = some o := fun b o e => by
    have hb : b < D := hDe ▸ Heap.lt_size e
    exact hsb₁.extBut b o (Nat.ne_of_lt (Nat.lt_trans hb hDC)) (Heap.get?_push_of_some _ (hH ▸ Heap.get?_push_of_some _ e))
  have new0 : ∀ a, D ≤ a → h₀.get? a = none := fun a ha => by
    cases e : h₀.get? a with
    | none => rfl
    | some o => exact absurd (Heap.lt_size (F.keep a o e)) (by rw [hDe]; exact Nat.not_lt.mpr ha)
  have hLD : L < D := hDe ▸ F.ns.lt
  have hD₀ := new0 D (Nat.le_refl _)
  have hC₀ := new0 C (Nat.le_of_lt hDC)
  have hDL : D ≠ L := Nat.ne_of_gt hLD
  have hCL : C ≠ L := Nat.ne_of_gt (Nat.lt_trans hLD hDC)
  have hDf : ∀ b ∈ fp, b ≠ D := fun b hb => Nat.ne_of_lt (hfp b hb)
  have hCf : ∀ b ∈ fp, b ≠ C := fun b hb => Nat.ne_of_lt (Nat.lt_trans (hfp b hb) hDC)
  have hDw : D ∉ wr := fun hb => hDf D (W.sub _ hb) rfl
  have hCw : C ∉ wr := fun hb => hCf C (W.sub _ hb) rfl
  have hLw : L ∉ wr := fun h => pl.loc (W.sub _ h)
  have oldw : ∀ b o, h₀.get? b = some o → b ∉ wr := fun b o e hb => by rw [pl.new b hb] at e; cases e
  have hacc : h₁.get? D = some (lst []) := hsb₁.extBut _ _ (Nat.ne_of_lt hDC) (Heap.get?_push_of_some _ (hH ▸ (hDe ▸ Heap.get?_push_size _ rfl)))
  have hout : out c₀ = [] := List.length_eq_zero_iff.mp (hP 0 c₀ hp0).1
  have loop : codeAny (model prog w) A (.compLoop (.ListComp elt [⟨.Tuple [.Name x px, .Name y py] k tp, iter, [], 0⟩] scope pos) 0 (.ref I) (.ref D) (compEnvC scope cl C env)) (RR (.ref D) C) { s with heap := h₁, toks := s.toks + ([] : List (Str × Value)).length } := by
    refine LCp.codeAny_compLoop_pair (fun k s' => ∃ i c m', i ≤ n ∧ k = n + 1 - i ∧ P i c ∧ Gd s' ∧ St i s'.heap ∧ Fr h₀ L s'.heap m ∧ s'.heap.Ns C m' ∧ News h₀ L s'.heap ((D, lst (out c)) :: nw c)) ?_ (n + 1)
      ⟨0, c₀, _, Nat.zero_le _, rfl, hp0, hGd _ _ _ hgd, W.frame _ _ _ hst fun b _ o e => old b o e, F.keeps old, hns₁, fun p hp => ?_⟩
    · rintro k s' ⟨i, c, m', hi, rfl, hPi, hg', hst₁, F', hn', N'⟩
      have hlI := (hP i c hPi).2
      have offw : ∀ p ∈ (D, lst (out c)) :: nw c, p.1 ∉ wr := fun p hp => by
        rcases List.mem_cons.mp hp with rfl | hp
        · exact hDw
        · exact (hlI p hp).1
      have next : ∀ h₂ : Heap, (∀ b o, b ∉ wr → s'.heap.get? b = some o → h₂.get? b = some o) → Fr h₀ L h₂ m ∧ News h₀ L h₂ ((D, lst (out c)) :: nw c) ∧ h₂.Ns C m' := fun h₂ hk₂ =>
        ⟨⟨F'.ns.at' fun o e => hk₂ _ o hLw e, fun b o e => hk₂ b o (oldw b o e) (F'.keep b o e), F'.above⟩, fun p hp => ⟨hk₂ _ _ (offw p hp) (N' p hp).1, (N' p hp).2⟩, hn'.at' fun o e => hk₂ _ o hCw e⟩
      by_cases hlt : i < n
      · refine W.item i _ _ _ hlt hst₁ fun v h₂ tk₂ hMd hk₂ => ?_
        refine W.go i v _ _ _ hMd fun h₃ hP₃ hst₃ hk₃ => ?_
        obtain ⟨F₃, N₃, n₃⟩ := next h₃ fun b o hb e => hk₃ b o hb (hk₂ b o hb e)
        obtain ⟨t, v₁, v₂, rfl, ht, hV⟩ := hPv i v h₃ hP₃
        refine assign_Tuple_tuple hh ht rfl rfl fun h₅ he => ?_
        have he' : ∀ b o, h₃.get? b = some o → h₅.get? b = some o := fun b o e => he b o (Nat.ne_of_lt (Heap.lt_size e)) e
        have F₅ := F₃.keeps he'
        have N₅ := N₃.keeps he'
        have hst₅ : St (i + 1) h₅ := W.frame _ _ _ hst₃ fun b _ o e => he' b o e
        refine assignInOrder_cons (wpAny_assign_Name (wpAny_storeName_local (lookup_relabel_local hx) (n₃.at' fun o e => he' _ o e) (fun h₆ hn₆ hs₆ => ?_) (by simp [compEnvC, relabel, hkind])))
        refine assignInOrder_cons (wpAny_assign_Name (wpAny_storeName_local (lookup_relabel_local hy) hn₆ (fun h₇ hn₇ hs₇ => ?_) (by simp [compEnvC, relabel, hkind])))
        refine assignInOrder_nil ?_
        have old3 : ∀ b o, b ≠ C → h₅.get? b = some o → h₇.get? b = some o := fun b o hb e => hs₇.extBut b o hb (hs₆.extBut b o hb e)
        have hst₇ : St (i + 1) h₇ := W.frame _ _ _ hst₅ fun b hb o e => old3 b o (hCf b hb) e
        obtain ⟨oC, heC, hoC⟩ := ns_obj hn₇
        have F₇ : Fr h₀ L h₇ m := (F₅.change hs₆ hCL hC₀).change hs₇ hCL hC₀
        have N₇ : News h₀ L h₇ ((C, oC) :: (D, lst (out c)) :: nw c) := fun p hp => by
          rcases List.mem_cons.mp hp with rfl | hp
          · exact ⟨heC, hCL, hC₀⟩
          · refine ⟨old3 _ _ ?_ (N₅ p hp).1, (N₅ p hp).2⟩
            rcases List.mem_cons.mp hp with rfl | hp
            · exact Nat.ne_of_lt hDC
            · exact Nat.ne_of_lt (Nat.lt_trans (hlI p hp).2 hDC)
        have Nown : News h₀ L h₇ (PyProof.Rows.ownOf h₀ fp h₇) := news_ownOf pl.loc
        have hown : ∀ p ∈ PyProof.Rows.ownOf h₀ fp h₇, p.1 < D := fun p hp => hfp _ (ownOf_sub p hp)
        refine wpAny_mono (turn i c { s' with heap := h₇, toks := _ } v₁ v₂ (PyProof.Rows.ownOf h₀ fp h₇) C D oC _ _ hlt hV hPi (hGd _ _ _ hg') hoC (by simp [hxy]) (by simp) F₇ (Nown.append N₇) (fun p hp => by
          rcases List.mem_append.mp hp with hp | hp
          · exact hown p hp
          · exact (hlI p hp).2) ownOf_sub hDC) (fun y s₄ h₄ => ?_) fun _ _ e => e
        obtain ⟨c', hg₄, F₄, N₄, hP₄, ho₄⟩ := h₄
        have N₆ : News h₀ L s₄.heap ((C, oC) :: (D, lst (out c)) :: nw c') := N₄.right
        have zC := (N₆ _ (.head _)).1
        have zD := (N₆ _ (.tail _ (.head _))).1
        have N₅' : News h₀ L s₄.heap (nw c') := fun p hp => N₆ p (.tail _ (.tail _ hp))
        have hst₄ : St (i + 1) s₄.heap := W.frame _ _ _ hst₇ fun b hb o e => by
          cases hn : h₀.get? b with
          | some o₀ =>
            have : o₀ = o := by have q := F₇.keep b o₀ hn; rw [e] at q; exact (Option.some.inj q).symm
            exact this ▸ F₄.keep b o₀ hn
          | none => exact (N₄ _ (List.mem_append_left _ (mem_ownOf hb hn e))).1
        refine append_at (hsz := by show (out c).toArray.size ≤ sizeLine; rw [List.size_toArray, (hP i c hPi).1]; exact Nat.le_trans hi hsz) zD fun h₈ hs₈ hD₈ => ?_
        refine ⟨n + 1 - (i + 1), by omega, i + 1, c', _, hlt, rfl, hP₄, hGd _ _ _ hg₄, W.frame _ _ _ hst₄ fun b hb o e => hs₈.extBut b o (hDf b hb) e, F₄.change hs₈ hDL hD₀, (hoC.ns zC).sameBut hs₈ (Nat.ne_of_gt hDC), fun p hp => ?_⟩
        rcases List.mem_cons.mp hp with rfl | hp
        · exact ⟨hD₈.trans (congrArg some (by rw [ho₄]; exact lst_snoc (out c) y)), hDL, hD₀⟩
        · exact ⟨hs₈.extBut _ _ (Nat.ne_of_lt ((hP _ _ hP₄).2 p hp).2) (N₅' p hp).1, (N₅' p hp).2⟩
      · obtain rfl : i = n := Nat.le_antisymm hi (Nat.not_lt.mp hlt)
        refine W.done _ _ _ hst₁ fun h₂ tk₂ hk₂ => ?_
        obtain ⟨F₂, N₂, n₂⟩ := next h₂ hk₂
        have ltD : ∀ p ∈ nw c, p.1 < D := fun p hp => (hlI p hp).2
        refine hRR D C { s' with heap := h₂, toks := tk₂ } _ (out c) (nw c) F₂ N₂ n₂ hC₀ hCL (fun p hp => ?_) (done D c _ hPi (hGd _ _ _ hg') ltD)
        rcases List.mem_cons.mp hp with rfl | hp
        · exact Nat.ne_of_lt hDC
        · exact Nat.ne_of_lt (Nat.lt_trans (ltD p hp) hDC)
    · rw [hout] at hp
      rcases List.mem_cons.mp hp with rfl | hp
      · exact ⟨hacc, hDL, hD₀⟩
      · exact ⟨old _ _ (N p hp).1, (N p hp).2⟩
  exact codeAny_compStart_list loop (hself _ _ _ (W.frame _ _ _ hst fun b _ o e => old b o e) loop)

theorem ListComp_pair {elt iter : Expr} {x y : Str} {px py tp : Pos} {k : Nat} {scope : Scope} {cl : List (Str × Addr)} {pos : Pos} {Q : Value → Shared → Prop} (_F : Fr h₀ L s.heap m)
    (hclos : closureFor scope env = pure cl) (hcell : ∀ y ∈ scope.names, y.2 ≠ .cell) (hkind : scope.kind = .function)
    (hnames : ∀ y ∈ scope.names, y.2 = .local → scope.names.lookup y.1 = some .local) (hx : scope.names.lookup x = some .local) (hy : scope.names.lookup y = some .local) (hxy : x ≠ y)
    (h : wpAny (model prog w) A (eval iter env) (fun xv s₁ => wpAny (model prog w) A (pyIter xv) (CSrcP prog w A h₀ L m scope cl env x y px py tp k elt (CFinE h₀ L m Q)) E s₁) E s)
    (hs : ∀ x, foldedSetIterable iter env x = pure x := by intro _; rfl) :
    wpAny (model prog w) A (eval (.ListComp elt [⟨.Tuple [.Name x px, .Name y py] k tp, iter, [], 0⟩] scope pos) env) Q E s := by
  rw [eval_ListComp]
  refine wpAny_comprehension_free (use := none) rfl hs hclos hkind hnames (wpAny_mono h (fun xv s₁ h₁ => wpAny_mono h₁ (fun it s₂ h₂ => ?_) fun _ _ e => e) fun _ _ e => e)
  refine comp_pair hcell hkind hx hy hxy h₂ fun D C s' m' ys news' F' N' hn hC₀ hCL off fin => ?_
  exact ⟨m', hn, fun h'' hs'' => fin h'' (F'.change hs'' hCL hC₀) fun p hp => ⟨hs''.extBut _ _ (off p hp) (N' p hp).1, (N' p hp).2⟩⟩

/-- zip of two lists of the ledger -/
theorem zip_src {l1 l2 : Addr} {xs ys : List Value} {n1 n2 : Nat} {news : List (Addr × Obj)} {R : Value → Shared → Prop} (hh : A.handled = none)
    (F : Fr h₀ L s.heap m) (N : News h₀ L s.heap news) (hm1 : (l1, ({ cls := .type "list", data := .seq xs.toArray n1 } : Obj)) ∈ news) (hm2 : (l2, ({ cls := .type "list", data := .seq ys.toArray n2 } : Obj)) ∈ news)
    (h : ∀ (I : Nat) (fp wr : List Addr) (Pv Md : Nat → Value → Heap → Prop) (St : Nat → Heap → Prop) (h' : Heap), (∀ (elts : List Expr) (k : Nat) (tp : Pos), KTurns prog w A (.Tuple elts k tp) I fp wr (min xs.length ys.length) Pv Md St) →
      (∀ i v h, Pv i v h → ∃ t v₁ v₂, v = .ref t ∧ IsTup h t #[v₁, v₂] ∧ xs[i]? = some v₁ ∧ ys[i]? = some v₂) →
      (∀ (s : Shared) (Q : Value → Shared → Prop) (E : Value → Shared → Prop), St 0 s.heap → Q (.ref I) s → wpAny (model prog w) A (pyIter (.ref I)) Q E s) →
      St 0 h' → (∀ b ∈ fp, b < h'.objs.size ∧ (b = l1 ∨ b = l2 ∨ s.heap.objs.size ≤ b)) → Places h₀ L fp wr → (∀ p ∈ news, p.1 ∉ wr ∧ p.1 < h'.objs.size) → Fr h₀ L h' m → News h₀ L h' news → R (.ref I) { s with heap := h' }) :
    wpAny (model prog w) A (call (.type "zip") [.ref l1, .ref l2]) (fun xv s₁ => wpAny (model prog w) A (pyIter xv) R E s₁) E s := by
  have hax1 := N _ hm1
  have hax2 := N _ hm2
  have hl1 : s.heap.IsList l1 xs.toArray := ⟨_, hax1.1, rfl, n1, rfl⟩
  have hl2 : s.heap.IsList l2 ys.toArray := ⟨_, hax2.1, rfl, n2, rfl⟩
  have hlt1 : l1 < s.heap.objs.size := Heap.lt_size hax1.1
  have hlt2 : l2 < s.heap.objs.size := Heap.lt_size hax2.1
  have hLs : L < s.heap.objs.size := F.ns.lt
  have D : ZipApart (s.heap.objs.size + 4) (s.heap.objs.size + 2) (s.heap.objs.size + 3) s.heap.objs.size (s.heap.objs.size + 1) l1 l2 := ktu_apart _ _ _ hlt1 hlt2
  refine call_zip_2 hl1 hl2 fun h' hz hTI hTO hi1 hi2 hsz hk => ?_
  refine wpAny_pyIter_zip hz ?_
  have W := (WalksT.zip2 (prog := prog) (w := w) hh _ _ _ _ _ _ _ D xs.toArray ys.toArray).toU
  rw [List.size_toArray, List.size_toArray] at W
  refine h _ _ _ _ _ _ h' (fun elts k tp => KTurns.ofWalksU W) ?_ (fun s Q E st q => wpAny_pyIter_zip st.1 q) ⟨hz, hTI, ⟨_, _, hTO⟩, hi1, hi2, hl1.at fun o e => hk l1 o e, hl2.at fun o e => hk l2 o e⟩ ?_ ⟨?_, ?_⟩ ?_ (F.keeps hk) (N.keeps hk)
  · rintro i v h ⟨T, vals, rfl, ⟨x, y, hx, hy, rfl⟩, hT⟩
    exact ⟨T, x, y, rfl, hT, by simpa using hx, by simpa using hy⟩
  · intro b hb
    have hb' : b = s.heap.objs.size + 4 ∨ b = s.heap.objs.size + 2 ∨ b = s.heap.objs.size + 3 ∨ b = s.heap.objs.size ∨ b = s.heap.objs.size + 1 ∨ b = l1 ∨ b = l2 := by simpa using hb
    have e1 : @LT.lt Nat _ l1 s.heap.objs.size := hlt1
    have e2 : @LT.lt Nat _ l2 s.heap.objs.size := hlt2
    rw [hsz]
    have : @LT.lt Nat _ b (s.heap.objs.size + 5) ∧ (@Eq Nat b l1 ∨ @Eq Nat b l2 ∨ @LE.le Nat _ s.heap.objs.size b) := by
      rcases hb' with h | h | h | h | h | h | h <;> (have h : @Eq Nat b _ := h; omega)
    exact this
  · intro hb
    have hb' : L = s.heap.objs.size + 4 ∨ L = s.heap.objs.size + 2 ∨ L = s.heap.objs.size + 3 ∨ L = s.heap.objs.size ∨ L = s.heap.objs.size + 1 ∨ L = l1 ∨ L = l2 := by simpa using hb
    rcases hb' with e | e | e | e | e | e | e
    · exact ktu_ne 4 hLs e
    · exact ktu_ne 2 hLs e
    · exact ktu_ne 3 hLs e
    · exact Nat.ne_of_lt hLs e
    · exact ktu_ne 1 hLs e
    · exact hax1.2.1 e.symm
    · exact hax2.2.1 e.symm
  · intro b hb
    have hb' : b = s.heap.objs.size + 4 ∨ b = s.heap.objs.size + 3 ∨ b = s.heap.objs.size ∨ b = s.heap.objs.size + 1 := by simpa using hb
    rcases hb' with rfl | rfl | rfl | rfl
    · exact ktu_new F (Nat.le_add_right _ _)
    · exact ktu_new F (Nat.le_add_right _ _)
    · exact ktu_new F (Nat.le_refl _)
    · exact ktu_new F (Nat.le_add_right _ _)
  · intro p hp
    have hlp := Heap.lt_size (N p hp).1
    refine ⟨fun hI' => ?_, ?_⟩
    · have hb' : p.1 = s.heap.objs.size + 4 ∨ p.1 = s.heap.objs.size + 3 ∨ p.1 = s.heap.objs.size ∨ p.1 = s.heap.objs.size + 1 := by simpa using hI'
      rcases hb' with e | e | e | e
      · exact ktu_ne 4 hlp e
      · exact ktu_ne 3 hlp e
      · exact Nat.ne_of_lt hlp e
      · exact ktu_ne 1 hlp e
    · rw [hsz]; exact Nat.lt_of_lt_of_le hlp (Nat.le_add_right _ 5)
end
end PartL9_
section PartL10_
set_option maxRecDepth 100000
set_option maxHeartbeats 4000000
open LCg (lst NsObj lst_snoc ns_obj fr_but news_but)
/-- the law's own def, as it stands -/
def LawFn (w : World) (qual : Str) (body : List Stmt) (scope : Scope) (cdv : Value) : Prop :=
  ∃ (name : Str) (params : Arguments) (dV kV doc pm ct oc : Value) (an od : Option Addr) (osl : Array (Option Value)),
    (hd.heap_39 w.params).lookup 230 = some ⟨oc, od, .func (fnOf name qual params body scope dV kV doc pm an cdv ct), osl⟩
theorem LawFn.eqs {w : World} {qual qual' : Str} {body body' : List Stmt} {scope scope' : Scope} {cdv cdv' : Value} (h : LawFn w qual body scope cdv) (h' : LawFn w qual' body' scope' cdv') : qual = qual' ∧ body = body' ∧ scope = scope' ∧ cdv = cdv' := by
  obtain ⟨_, _, _, _, _, _, _, _, _, _, _, e⟩ := h
  obtain ⟨_, _, _, _, _, _, _, _, _, _, _, e'⟩ := h'
  rw [e] at e'
  cases e'
  exact ⟨rfl, rfl, rfl, rfl⟩
/-- texts, one by one -/
def Txs (vs : List Value) (ls : List (List Nat)) : Prop := vs.length = ls.length ∧ ∀ (i : Nat) (v : Value) (l : List Nat), vs[i]? = some v → ls[i]? = some l → ∃ t, v = .str (T l) t
theorem Txs.nil : Txs [] [] := ⟨rfl, fun _ _ _ h => by cases h⟩
theorem Txs.snoc {vs : List Value} {ls : List (List Nat)} {l : List Nat} (h : Txs vs ls) (t : Tok) : Txs (vs ++ [.str (T l) t]) (ls ++ [l]) := by
  refine ⟨by rw [List.length_append, List.length_append, h.1]; rfl, fun i v' r' h1 h2 => ?_⟩
  rcases Nat.lt_trichotomy i vs.length with hi | hi | hi
  · rw [List.getElem?_append_left hi] at h1
    rw [List.getElem?_append_left (h.1 ▸ hi)] at h2
    exact h.2 i v' r' h1 h2
  · subst hi
    rw [List.getElem?_append_right (Nat.le_refl _), Nat.sub_self] at h1
    rw [h.1, List.getElem?_append_right (Nat.le_refl _), Nat.sub_self] at h2
    cases h1; cases h2; exact ⟨t, rfl⟩
  · rw [List.getElem?_eq_none (by rw [List.length_append]; exact hi)] at h1
    cases h1
/-- values, one by one, and the objects that they are made of -/
def Vls (w : World) (vs : List Value) (xs : List Val) (os : List (Addr × Obj)) : Prop := vs.length = xs.length ∧ ∀ (i : Nat) (v : Value) (x : Val), vs[i]? = some v → xs[i]? = some x → ∃ o, VIs w v o x ∧ ∀ q ∈ o, q ∈ os
theorem Vls.nil {w : World} : Vls w [] [] [] := ⟨rfl, fun _ _ _ h => by cases h⟩
theorem Vls.snoc {w : World} {vs : List Value} {xs : List Val} {os o : List (Addr × Obj)} {v : Value} {x : Val} (h : Vls w vs xs os) (hv : VIs w v o x) : Vls w (vs ++ [v]) (xs ++ [x]) (o ++ os) := by
  refine ⟨by rw [List.length_append, List.length_append, h.1]; rfl, fun i v' r' h1 h2 => ?_⟩
  rcases Nat.lt_trichotomy i vs.length with hi | hi | hi
  · rw [List.getElem?_append_left hi] at h1
    rw [List.getElem?_append_left (h.1 ▸ hi)] at h2
    obtain ⟨o', a, b⟩ := h.2 i v' r' h1 h2
    exact ⟨o', a, fun q hq => List.mem_append_right _ (b q hq)⟩
  · subst hi
    rw [List.getElem?_append_right (Nat.le_refl _), Nat.sub_self] at h1
    rw [h.1, List.getElem?_append_right (Nat.le_refl _), Nat.sub_self] at h2
    cases h1; cases h2; exact ⟨o, hv, fun q hq => List.mem_append_left _ hq⟩
  · rw [List.getElem?_eq_none (by rw [List.length_append]; exact hi)] at h1
    cases h1
def NameOk (l : List Nat) : Prop := l ≠ [] ∧ l.length ≤ 6 ∧ ∀ c ∈ l, c ∈ lawSigns
def ValOk : Val → Prop
  | .non => True
  | .bool _ => True
  | .int z => -(10 ^ 20) < z ∧ z < 10 ^ 20
  | .list xs => (∀ x ∈ xs, x.Ok) ∧ (∀ x ∈ xs, x.Sg) ∧ xs.length ≤ 4
  | .rng lo hi => lo < 50 ∧ ∀ n, hi = some n → n < 10 ^ 10
  | .txt l => l.length ≤ 6
theorem sgOf_mem (r k : Nat) : sgOf r k ∈ lawSigns := by
  unfold sgOf
  have h : r / 12 ^ k % 12 < lawSigns.length := Nat.mod_lt _ (by decide)
  rw [List.getD_eq_getElem?_getD, List.getElem?_eq_getElem h, Option.getD_some]
  exact List.getElem_mem h
theorem text_mem (r n : Nat) : ∀ c ∈ textOf r n, c ∈ lawSigns := by
  intro c hc
  obtain ⟨k, _, rfl⟩ := List.mem_map.mp hc
  exact sgOf_mem r k
theorem text_len (r n : Nat) : (textOf r n).length = n := by unfold textOf; rw [List.length_map, List.length_range]
theorem name_ok (r n : Nat) (h0 : 0 < n) (h6 : n ≤ 6) : NameOk (textOf r n) := by
  refine ⟨fun e => ?_, by rw [text_len]; exact h6, text_mem r n⟩
  have := text_len r n
  rw [e] at this
  simp at this; omega
theorem NameOk.zero {l : List Nat} (h : NameOk l) : 0 ∉ l := fun q => absurd (h.2.2 0 q) (by decide)
theorem worth_ok (n : Nat) (hn : n < 10 ^ 10) : ValOk (worth n) := by
  unfold worth worthOf
  have hr : n / 7 < 10 ^ 10 := by omega
  have h7 : n % 7 < 7 := Nat.mod_lt _ (by decide)
  generalize n / 7 = r at *
  split
  · split <;> trivial
  split
  · show _ ∧ _
    split
    · have h1 : ((r * r : Nat) : Int) < 10 ^ 20 := by
        have h2 : r * r ≤ (10 ^ 10 - 1) * (10 ^ 10 - 1) := Nat.mul_le_mul (by omega) (by omega)
        omega
      have h3 : ((r * r : Nat) : Int) = (r : Int) * r := Int.natCast_mul r r
      rw [h3] at h1
      have h4 : (0 : Int) ≤ (r : Int) * r := by rw [← h3]; exact Int.natCast_nonneg _
      omega
    · omega
  split
  · refine ⟨?_, ?_, ?_⟩
    · intro x hx
      obtain ⟨k, _, rfl⟩ := List.mem_map.mp hx
      unfold itN
      split
      · trivial
      · have : r / (k + 1) ≤ r := Nat.div_le_self _ _
        show -(10 ^ 20) < ((r / (k + 1) : Nat) : Int) ∧ ((r / (k + 1) : Nat) : Int) < 10 ^ 20
        generalize r / (k + 1) = q at *
        omega
    · intro x hx
      obtain ⟨k, _, rfl⟩ := List.mem_map.mp hx
      unfold itN
      split <;> trivial
    · rw [List.length_map, List.length_range]; omega
  split
  · refine ⟨?_, ?_, ?_⟩
    · intro x hx
      obtain ⟨k, _, rfl⟩ := List.mem_map.mp hx
      unfold itT
      split
      · trivial
      · show (textOf _ _).length ≤ 8
        rw [text_len]; omega
    · intro x hx
      obtain ⟨k, _, rfl⟩ := List.mem_map.mp hx
      unfold itT
      split
      · trivial
      · exact text_mem _ _
    · rw [List.length_map, List.length_range]; omega
  split
  · refine ⟨Nat.mod_lt _ (by decide), fun m hm => ?_⟩
    split at hm
    · cases hm
    · cases hm; exact hr
  · show (textOf _ _).length ≤ 6
    rw [text_len]; omega
def litVal : Val → List Nat
  | .non => [78, 85, 76, 76]
  | .bool b => if b then [84, 82, 85, 69] else [70, 65, 76, 83, 69]
  | .int z => num z
  | .list xs => litOut (aoOut xs)
  | .rng lo hi => litOut (rngOut lo hi)
  | .txt l => litOut l
def ToldIs (told : Value) : Val → Prop
  | .non => told = .none
  | .bool b => told = .bool b
  | .int z => ∃ t, told = .int z t
  | .list xs => ∃ t, told = .str (T (aoOut xs)) t
  | .rng lo hi => ∃ t, told = .str (T (rngOut lo hi)) t
  | .txt l => ∃ t, told = .str (T l) t
section
variable {w : World} {p : Program} {loose : List Str} {mean : ExcName → Option Value} {mg mb : Str → Option Value} {dp un : Nat} {gd : Option (List Code)} {cn : Str} {cs : Scope} {a : Addr} {ccd : Value} {cl : List (Str × Addr)} {outer : List Env} {A₀ : Around} {base h₀ : Heap} {L : Addr} {m : Str → Option Value} {news : List (Addr × Obj)} {s : Shared} {Q E : Value → Shared → Prop}
theorem lit_val {ps : Array Value} {v : Value} {os : List (Addr × Obj)} {x : Val} (hv : VIs w v os x) (ok : ValOk x) (hos : ∀ q ∈ os, q ∈ news)
    (g : Below A₀ base outer h₀ ∧ Fr h₀ L s.heap m ∧ (hd.heap_39 w.params).In h₀ ∧ Top p loose mean mg mb h₀ ∧ CodeHd h₀ 94 90 ∧ h₀.get? 90 = none ∧ AllBare s.gens ∧ TriplesOk ps.toList)
    (N : News h₀ L s.heap ((90, tabObj ps) :: news)) (hne : ∀ q ∈ news, q.1 ≠ 90)
    (n : dp + 6 < recursionLimit ∧ un + 120 < cLine)
    (hret : ∀ t s' ps', Fr h₀ L s'.heap m → News h₀ L s'.heap ((90, tabObj ps') :: news) → TriplesOk ps'.toList → AllBare s'.gens → s'.os = s.os → Q (.str (T (litVal x)) t) s') (hke : cs.kind = .function := by rfl) :
    wpAny (model PySem.Challenge.rw_ew0021_01.row.prog w) (ktrTop dp un gd cn cs L a ccd cl outer) (call (.ref 127) [v]) Q E s := by
  have fin : ∀ r s' ps', Fr h₀ L s'.heap m → News h₀ L s'.heap ((90, tabObj ps') :: news) → TriplesOk ps'.toList → AllBare s'.gens → s'.os = s.os → (∃ t, r = .str (T (litVal x)) t) → Q r s' := by
    rintro r s' ps' h1 h2 h3 h4 h5 ⟨t, rfl⟩
    exact hret t s' ps' h1 h2 h3 h4 h5
  have n' : ∀ d u, d ≤ 6 → u ≤ 120 → dp + d < recursionLimit ∧ un + u < cLine := fun d u h1 h2 => by omega
  cases x with
  | non =>
    obtain ⟨rfl, rfl⟩ := hv
    exact SpcG.use1 (lit_none w) g N hne (n' _ _ (by decide) (by decide)) trivial fin hke
  | bool b =>
    obtain ⟨rfl, rfl⟩ := hv
    exact SpcG.use1 (lit_bool w b) g N hne (n' _ _ (by decide) (by decide)) trivial fin hke
  | int z =>
    obtain ⟨⟨t, rfl⟩, rfl⟩ := hv
    exact SpcG.use1 (lit_int w z t ok.1 ok.2) g N hne (n' _ _ (by decide) (by decide)) trivial fin hke
  | txt l =>
    obtain ⟨⟨t, rfl⟩, rfl⟩ := hv
    have ok : l.length ≤ 6 := ok
    exact SpcG.use1 (lit_txt w l t (by omega)) g N hne (n' _ _ (by decide) (by decide)) trivial fin hke
  | list xs =>
    obtain ⟨b, vs, rfl, rfl, hI⟩ := hv
    have hm := hos _ (.head _)
    have hN := N _ (.tail _ hm)
    exact SpcG.use1 (lit_list w b vs xs hI ok.1 ok.2.2) g N hne (n' _ _ (by decide) (by decide)) ⟨_, (Heap.hide_ne _ (hne _ hm)).trans hN.1, rfl, _, rfl⟩ fin hke
  | rng lo hi =>
    obtain ⟨b, d, v2, k1, k2, k3, k4, tb, t, rfl, rfl, hI⟩ := hv
    refine SpcN.use1 (lit_rng w b d lo hi v2 k1 k2 k3 k4 tb t hI ok.1 ok.2) ⟨g.1, g.2.1, g.2.2.1, N, g.2.2.2.1⟩ (fun q hq => .tail _ (hos q hq)) (n' _ _ (by decide) (by decide)) (fun r h' tk' F' N' hr => ?_) hke
    exact fin r _ ps F' N' g.2.2.2.2.2.2.2 g.2.2.2.2.2.2.1 rfl hr
theorem read_val {x : Val} (ok : ValOk x) {l rest : List Nat} {i : Nat} (hl : l.drop i = litVal x ++ rest) (hr : ∀ c r, rest = c :: r → c = 44) (hlen : l.length < 2 ^ 18) {tx ti : Tok} {z : Int} (hz : z = i)
    (g : Below A₀ base outer h₀ ∧ Fr h₀ L s.heap m ∧ (hd.heap_39 w.params).In h₀ ∧ News h₀ L s.heap news ∧ Top p loose mean mg mb h₀)
    (n : dp + 6 < recursionLimit ∧ un + 120 < cLine)
    (hret : ∀ b told t2 h' tk', ToldIs told x → TupIs s.heap b [told, .int ((i + (litVal x).length : Nat) : Int) t2] h' → Fr h₀ L h' m → News h₀ L h' news → Q (.ref b) { s with heap := h', toks := tk' }) (hke : cs.kind = .function := by rfl) :
    wpAny (model PySem.Challenge.rw_ew0021_01.row.prog w) (ktrTop dp un gd cn cs L a ccd cl outer) (call (.ref 213) [.str (T l) tx, .int z ti]) Q E s := by
  have n' : ∀ d u, d ≤ 6 → u ≤ 120 → dp + d < recursionLimit ∧ un + u < cLine := fun d u h1 h2 => by omega
  have hr1 : rest.take 1 ≠ [39] := by
    cases rest with
    | nil => simp
    | cons c r => cases hr c r rfl; simp
  have hr2 : ∀ c r, rest = c :: r → c ∈ stopR := fun c r e => by cases hr c r e; decide
  cases x with
  | non =>
    refine Spc.use1 (read_null w l rest i hl hr2 tx ti z hz) g (n' _ _ (by decide) (by decide)) hlen (fun v h' tk' F' N' hv => ?_) hke
    obtain ⟨b, t2, rfl, hv⟩ := hv
    exact hret b _ t2 h' tk' rfl hv F' N'
  | bool b =>
    cases b
    · refine Spc.use1 (read_false w l rest i hl hr2 tx ti z hz) g (n' _ _ (by decide) (by decide)) hlen (fun v h' tk' F' N' hv => ?_) hke
      obtain ⟨b, t2, rfl, hv⟩ := hv
      exact hret b _ t2 h' tk' rfl hv F' N'
    · refine Spc.use1 (read_true w l rest i hl hr2 tx ti z hz) g (n' _ _ (by decide) (by decide)) hlen (fun v h' tk' F' N' hv => ?_) hke
      obtain ⟨b, t2, rfl, hv⟩ := hv
      exact hret b _ t2 h' tk' rfl hv F' N'
  | int k =>
    refine Spc.use1 (read_num w k ok.1 ok.2 l rest i hl hr2 tx ti z hz) g (n' _ _ (by decide) (by decide)) hlen (fun v h' tk' F' N' hv => ?_) hke
    obtain ⟨b, t1, t2, rfl, hv⟩ := hv
    exact hret b _ t2 h' tk' ⟨_, rfl⟩ hv F' N'
  | txt o =>
    refine Spc.use1 (read_txt w o l rest i hl hr1 tx ti z hz) g (n' _ _ (by decide) (by decide)) hlen (fun v h' tk' F' N' hv => ?_) hke
    obtain ⟨b, t1, t2, rfl, hv⟩ := hv
    exact hret b _ t2 h' tk' ⟨_, rfl⟩ hv F' N'
  | list xs =>
    refine Spc.use1 (read_txt w (aoOut xs) l rest i hl hr1 tx ti z hz) g (n' _ _ (by decide) (by decide)) hlen (fun v h' tk' F' N' hv => ?_) hke
    obtain ⟨b, t1, t2, rfl, hv⟩ := hv
    exact hret b _ t2 h' tk' ⟨_, rfl⟩ hv F' N'
  | rng lo hi =>
    refine Spc.use1 (read_txt w (rngOut lo hi) l rest i hl hr1 tx ti z hz) g (n' _ _ (by decide) (by decide)) hlen (fun v h' tk' F' N' hv => ?_) hke
    obtain ⟨b, t1, t2, rfl, hv⟩ := hv
    exact hret b _ t2 h' tk' ⟨_, rfl⟩ hv F' N'
theorem same_val {x : Val} {v told : Value} {os : List (Addr × Obj)} (hv : VIs w v os x) (ok : ValOk x) (ht : ToldIs told x) (hos : ∀ q ∈ os, q ∈ news)
    (g : Below A₀ base outer h₀ ∧ Fr h₀ L s.heap m ∧ (hd.heap_39 w.params).In h₀ ∧ News h₀ L s.heap news ∧ Top p loose mean mg mb h₀)
    (n : dp + 6 < recursionLimit ∧ un + 120 < cLine)
    (hret : ∀ h' tk', Fr h₀ L h' m → News h₀ L h' news → Q (.bool true) { s with heap := h', toks := tk' }) (hke : cs.kind = .function := by rfl) :
    wpAny (model PySem.Challenge.rw_ew0021_01.row.prog w) (ktrTop dp un gd cn cs L a ccd cl outer) (call (.ref 218) [v, told]) Q E s := by
  have n' : ∀ d u, d ≤ 6 → u ≤ 120 → dp + d < recursionLimit ∧ un + u < cLine := fun d u h1 h2 => by omega
  cases x with
  | non =>
    obtain ⟨rfl, rfl⟩ := hv
    cases ht
    exact Spc.use1 (same_none w) g (n' _ _ (by decide) (by decide)) trivial (fun r h' tk' F' N' hr => by cases hr; exact hret h' tk' F' N') hke
  | bool b =>
    obtain ⟨rfl, rfl⟩ := hv
    cases ht
    exact Spc.use1 (same_bool w b) g (n' _ _ (by decide) (by decide)) trivial (fun r h' tk' F' N' hr => by cases hr; exact hret h' tk' F' N') hke
  | int z =>
    obtain ⟨⟨t, rfl⟩, rfl⟩ := hv
    obtain ⟨u, rfl⟩ := ht
    exact Spc.use1 (same_int w z t u) g (n' _ _ (by decide) (by decide)) trivial (fun r h' tk' F' N' hr => by cases hr; exact hret h' tk' F' N') hke
  | txt l =>
    obtain ⟨⟨t, rfl⟩, rfl⟩ := hv
    obtain ⟨u, rfl⟩ := ht
    exact Spc.use1 (same_txt w l t u) g (n' _ _ (by decide) (by decide)) trivial (fun r h' tk' F' N' hr => by cases hr; exact hret h' tk' F' N') hke
  | list xs =>
    obtain ⟨b, vs, rfl, rfl, hI⟩ := hv
    obtain ⟨u, rfl⟩ := ht
    have hN := g.2.2.2.1 _ (hos _ (.head _))
    exact Spc.use1 (same_list w b vs xs hI ok.1 ok.2.1 ok.2.2 u) g (n' _ _ (by decide) (by decide)) ⟨_, hN.1, rfl, _, rfl⟩ (fun r h' tk' F' N' hr => by cases hr; exact hret h' tk' F' N') hke
  | rng lo hi =>
    obtain ⟨b, d, v2, k1, k2, k3, k4, tb, t, rfl, rfl, hI⟩ := hv
    obtain ⟨u, rfl⟩ := ht
    cases hi with
    | none =>
      cases hI
      exact SpcN.use1 (same_rng0 w b d lo k1 k2 k3 k4 tb t u ok.1) g hos (n' _ _ (by decide) (by decide)) (fun r h' tk' F' N' hr => by cases hr; exact hret h' tk' F' N') hke
    | some k =>
      obtain ⟨tn, rfl⟩ := hI
      exact SpcN.use1 (same_rng1 w b d lo k tn k1 k2 k3 k4 tb t u ok.1 (ok.2 k rfl)) g hos (n' _ _ (by decide) (by decide)) (fun r h' tk' F' N' hr => by cases hr; exact hret h' tk' F' N') hke
end
end PartL10_
section PartQ5_
open StrLaws
set_option maxRecDepth 100000
set_option maxHeartbeats 4000000
abbrev Pr := List Nat × Val
def pairOut (p : Pr) : List Nat := (([34] ++ dbl 34 p.1 ++ [34]) ++ [61]) ++ litVal p.2
def remOf (ps : List Pr) : List Nat := ps.flatMap fun p => [44, 32] ++ pairOut p
theorem inter_rem (p : Pr) (r : List Pr) : inter [44, 32] ((p :: r).map pairOut) = pairOut p ++ remOf r := by
  induction r generalizing p with
  | nil => simp [inter, remOf]
  | cons q r ih =>
    show pairOut p ++ [44, 32] ++ inter [44, 32] ((q :: r).map pairOut) = _
    rw [ih]
    simp [remOf]
theorem rem_head (ps : List Pr) : ∀ c r, remOf ps = c :: r → c = 44 := by
  intro c r h
  cases ps with
  | nil => cases h
  | cons p q => simp [remOf] at h; exact h.1.symm
theorem drop_get {ps : List Pr} {i : Nat} {p : Pr} (h : ps[i]? = some p) : ps.drop i = p :: ps.drop (i + 1) := by
  obtain ⟨hi, rfl⟩ := List.getElem?_eq_some_iff.mp h
  exact List.drop_eq_getElem_cons hi
def PosAt (st : List Nat) (ps : List Pr) (i z : Nat) : Prop := (i = 0 ∧ z = 0) ∨ (0 < i ∧ 0 < z ∧ z ≤ st.length ∧ st.drop z = remOf (ps.drop i))
theorem turn_law {st : List Nat} {ps : List Pr} {i z : Nat} {n : List Nat} {v : Val} (hst : st = inter [44, 32] (ps.map pairOut)) (hp : ps[i]? = some (n, v)) (hz : PosAt st ps i z) :
    ∃ j k e, ((i = 0 ∧ j = 0 ∧ z = 0) ∨ (j = z + 2 ∧ 0 < z ∧ z + 2 ≤ st.length ∧ (st.drop z).take 2 = [44, 32])) ∧ j < st.length ∧ (st.drop j).take 1 = [34] ∧ unq 34 (st.drop (j + 1)) = (n, (dbl 34 n).length) ∧ k = j + 1 + (dbl 34 n).length + 1 ∧
      (st.drop k).take 1 = [61] ∧ st.drop (k + 1) = litVal v ++ remOf (ps.drop (i + 1)) ∧ e = k + 1 + (litVal v).length ∧ PosAt st ps (i + 1) e := by
  have main : ∀ j, st.drop j = pairOut (n, v) ++ remOf (ps.drop (i + 1)) → j < st.length ∧ (st.drop j).take 1 = [34] ∧ unq 34 (st.drop (j + 1)) = (n, (dbl 34 n).length) ∧
      (st.drop (j + 1 + (dbl 34 n).length + 1)).take 1 = [61] ∧ st.drop (j + 1 + (dbl 34 n).length + 1 + 1) = litVal v ++ remOf (ps.drop (i + 1)) ∧ PosAt st ps (i + 1) (j + 1 + (dbl 34 n).length + 1 + 1 + (litVal v).length) := by
    intro j hj
    have e0 : st.drop j = 34 :: (dbl 34 n ++ (34 :: (61 :: (litVal v ++ remOf (ps.drop (i + 1)))))) := by rw [hj]; simp [pairOut]
    have e1 : st.drop (j + 1) = dbl 34 n ++ (34 :: (61 :: (litVal v ++ remOf (ps.drop (i + 1))))) := by
      rw [← List.drop_drop, e0]; rfl
    have e2 : st.drop (j + 1 + (dbl 34 n).length) = 34 :: (61 :: (litVal v ++ remOf (ps.drop (i + 1)))) := drop_len e1
    have e3 : st.drop (j + 1 + (dbl 34 n).length + 1) = 61 :: (litVal v ++ remOf (ps.drop (i + 1))) := by
      rw [← List.drop_drop, e2]; rfl
    have e4 : st.drop (j + 1 + (dbl 34 n).length + 1 + 1) = litVal v ++ remOf (ps.drop (i + 1)) := by
      rw [← List.drop_drop, e3]; rfl
    have e5 : st.drop (j + 1 + (dbl 34 n).length + 1 + 1 + (litVal v).length) = remOf (ps.drop (i + 1)) := drop_len e4
    have hlt : j < st.length := by
      rcases Nat.lt_or_ge j st.length with h | h
      · exact h
      · rw [List.drop_eq_nil_of_le h] at e0; cases e0
    have hle : j + 1 + (dbl 34 n).length + 1 + 1 + (litVal v).length ≤ st.length := by
      have h1 := congrArg List.length hj
      rw [List.length_drop] at h1
      simp only [pairOut, List.length_append, List.length_cons, List.length_nil] at h1
      omega
    refine ⟨hlt, by rw [e0]; rfl, ?_, by rw [e3]; rfl, e4, .inr ⟨by omega, by omega, hle, e5⟩⟩
    rw [e1]
    exact unq_dbl 34 n _ (by simp)
  rcases hz with ⟨rfl, rfl⟩ | ⟨h1, h2, h3, h4⟩
  · have e : st.drop 0 = pairOut (n, v) ++ remOf (ps.drop 1) := by
      have hd := drop_get hp
      rw [List.drop_zero] at hd
      rw [List.drop_zero, hst]
      conv => lhs; rw [hd]
      exact inter_rem _ _
    obtain ⟨a, b, c, d, f, g⟩ := main 0 e
    exact ⟨0, _, _, .inl ⟨rfl, rfl, rfl⟩, a, b, c, rfl, d, f, rfl, g⟩
  · have e0 : st.drop z = [44, 32] ++ (pairOut (n, v) ++ remOf (ps.drop (i + 1))) := by
      rw [h4, drop_get hp]; simp [remOf]
    have e : st.drop (z + 2) = pairOut (n, v) ++ remOf (ps.drop (i + 1)) := by
      rw [← List.drop_drop, e0]; rfl
    obtain ⟨a, b, c, d, f, g⟩ := main (z + 2) e
    exact ⟨z + 2, _, _, .inr ⟨rfl, h2, by omega, by rw [e0]; rfl⟩, a, b, c, rfl, d, f, rfl, g⟩
theorem end_law {st : List Nat} {ps : List Pr} {z : Nat} (h : PosAt st ps ps.length z) (h0 : 0 < ps.length) : z = st.length := by
  rcases h with ⟨h1, _⟩ | ⟨_, _, h3, h4⟩
  · omega
  · rw [List.drop_length] at h4
    have := congrArg List.length h4
    rw [List.length_drop] at this
    simp [remOf] at this
    omega
theorem litVal_len {v : Val} (h : ValOk v) : (litVal v).length ≤ 200 := by
  cases v with
  | non => decide
  | bool b => cases b <;> decide
  | int z => have := num_len h.1 h.2; show (num z).length ≤ 200; omega
  | list xs =>
    have h1 := aoOut_len h.1 h.2.2
    have h2 := dbl_len 39 (aoOut xs)
    show (litOut _).length ≤ 200
    simp only [litOut, List.length_append, List.length_cons, List.length_nil]; omega
  | rng lo hi =>
    have h1 := rng_len lo hi h.1 h.2
    have h2 := dbl_len 39 (rngOut lo hi)
    show (litOut _).length ≤ 200
    simp only [litOut, List.length_append, List.length_cons, List.length_nil]; omega
  | txt l =>
    have h1 : l.length ≤ 6 := h
    have h2 := dbl_len 39 l
    show (litOut _).length ≤ 200
    simp only [litOut, List.length_append, List.length_cons, List.length_nil]; omega
theorem pairOut_len {p : Pr} (h1 : NameOk p.1) (h2 : ValOk p.2) : (pairOut p).length ≤ 300 := by
  have a := litVal_len h2
  have b := dbl_len 34 p.1
  have c := h1.2.1
  simp only [pairOut, List.length_append, List.length_cons, List.length_nil]; omega
theorem st_sum {ps : List Pr} (h1 : ∀ p ∈ ps, NameOk p.1 ∧ ValOk p.2) (hl : ps.length ≤ 5) : ((ps.map pairOut).map fun l => l.length + 1).sum ≤ 1505 := by
  have h := sum_le (k := 300) (ls := ps.map pairOut) (by
    intro l hl
    obtain ⟨p, hp, rfl⟩ := List.mem_map.mp hl
    exact pairOut_len (h1 p hp).1 (h1 p hp).2)
  rw [List.length_map] at h
  omega
theorem st_len {ps : List Pr} (h1 : ∀ p ∈ ps, NameOk p.1 ∧ ValOk p.2) (hl : ps.length ≤ 5) : (inter [44, 32] (ps.map pairOut)).length < 2 ^ 14 := by
  have a := inter_len [44, 32] (ps.map pairOut)
  have b := st_sum h1 hl
  have c : ∀ ls : List (List Nat), (ls.map fun l => l.length + 2).sum ≤ 2 * (ls.map fun l => l.length + 1).sum := by
    intro ls
    induction ls with
    | nil => simp
    | cons x r ih => simp only [List.map_cons, List.sum_cons]; omega
  have d := c (ps.map pairOut)
  have e : ((ps.map pairOut).map fun l => l.length + ([44, 32] : List Nat).length) = ((ps.map pairOut).map fun l => l.length + 2) := rfl
  rw [e] at a
  omega
end PartQ5_
section Pre4_
local macro_rules | `(tactic| walk_at "mine nat") => `(tactic| with_reducible first | exact rfl | exact litN _ | assumption)
local macro_rules | `(tactic| walk_at "binaryOp FloorDiv int int") => `(tactic| (refine' r_fdiv ?a ?b ?d ?r ?_; (case a => walk_at "mine nat"); (case b => walk_at "mine nat"); (case d => omega); (case r => omega)))
local macro_rules | `(tactic| walk_at "binaryOp Mod int int") => `(tactic| (refine' r_fmod ?a ?b ?d ?_; (case a => walk_at "mine nat"); (case b => walk_at "mine nat"); (case d => omega)))
local macro_rules | `(tactic| walk_at "mine nat") => `(tactic| with_reducible first | exact rfl | exact litN _ | exact natAdd _ _ | exact natAdd2 _ _ | exact natAdd3 _ _ | exact natMul3 _ _ | assumption)

section PartZ5_
local macro_rules | `(tactic| walk_at "call ref") => `(tactic| refine Stop.mk ?_)
theorem anew_Z5 : True := by
  w_top off
  exact trivial
theorem r_head {prog : Program} {w : World} {A : Around} {E : Value → Shared → Prop} {s : Shared} {h₀ : Heap} {L : Addr} {news : List (Addr × Obj)} {value slice : Expr} {l : Addr} {v : Value} {vs : List Value} {k : Nat} {u : Tok} {Q : Value → Shared → Prop}
    (N : News h₀ L s.heap news) (hm : (l, W.listOf (v :: vs).toArray k) ∈ news) (hQ : Q v s)
    (hs : subscripted slice false (.ref l) (.int 0 u) = operate [.ref l, .int 0 u] (getItem (.ref l) (.int 0 u)) := by with_unfolding_all rfl) (hg : ∀ r, letTemporaryGo value (.ref l) r = pure () := by intro _; with_unfolding_all rfl) :
    wpAny (model prog w) A (subscriptTail value slice (.ref l) (.int 0 u)) Q E s :=
  item_listL ⟨_, (N _ hm).1, rfl, _, rfl⟩ (by decide) (by decide) rfl hQ hs hg
local macro_rules | `(tactic| walk_at "subscriptTail Name Constant ref int") => `(tactic| (refine' r_head ?N ?m ?_; (case N => with_reducible assumption); (case m => k_mem)))
local macro_rules | `(tactic| walk_at "binaryOp Add str str") => `(tactic| (refine' r_add ?l ?_; (case l => (simp only [List.length_append, List.length_cons, List.length_nil]; omega)); intro _ _))
local macro_rules | `(tactic| walk_at "eval ListComp") => `(tactic| refine Stop.mk ?_)
local macro_rules | `(tactic| walk_at "pyIter ref") => `(tactic| refine Stop.mk ?_)
inductive Wrong (news : List (Addr × Obj)) : Value → Prop where
  | non : Wrong news .none
  | int (z : Int) (t : Tok) : Wrong news (.int z t)
  | bool (b : Bool) : Wrong news (.bool b)
  | list (a : Addr) (vs : Array Value) (n : Nat) (h : (a, W.listOf vs n) ∈ news) : Wrong news (.ref a)
  | empty (t : Tok) : Wrong news (.str (T []) t)
  | zero (l : List Nat) (t : Tok) (h0 : 0 ∈ l) (hlen : l.length ≤ 1000) : Wrong news (.str (T l) t)
theorem refused {w : World} {p : Program} {loose : List Str} {mean : ExcName → Option Value} {mg mb : Str → Option Value} {dp un : Nat} {gd : Option (List Code)} {cn : Str} {nm : List (Str × NameKind)} {ig ic : Bool} {mo : List (Str × Const)} {a : Addr} {ccd : Value} {A₀ : Around} {h₀ : Heap} {L : Addr} {m : Str → Option Value} {s : Shared} {Q E : Value → Shared → Prop} {news : List (Addr × Obj)} {v : Value} (hv : Wrong news v)
    (B : Below A₀ h₀ [] h₀) (F : Fr h₀ L s.heap m) (N : News h₀ L s.heap news) (X : (hd.heap_39 w.params).In h₀) (Tp : Top p loose mean mg mb h₀) (hd : dp + 6 < recursionLimit) (hu : un + 80 < cLine)
    (hret : ∀ h' tk', Fr h₀ L h' m → News h₀ L h' news → Q (.bool true) { s with heap := h', toks := tk' }) :
    wpAny (model PySem.Challenge.rw_ew0021_01.row.prog w) (ktrTop dp un gd cn ⟨.function, nm, ig, ic, mo⟩ L a ccd [] []) (call (.ref 225) [v]) Q E s := by
  cases hv with
  | non => exact ref_none B F N X Tp hd hu hret
  | int z t => exact ref_int B F N X Tp hd hu hret
  | bool b => exact ref_bool B F N X Tp hd hu hret
  | list a vs n h =>
    have N' : News h₀ L s.heap ((a, W.listOf vs n) :: news) := fun q hq => by
      rcases List.mem_cons.mp hq with rfl | hq
      · exact N _ h
      · exact N _ hq
    exact ref_list B F N' X Tp hd hu fun h' tk' F' N' => hret h' tk' F' (newsTail N')
  | empty t => exact ref_empty B F N X Tp hd hu hret
  | zero l t h0 hlen => exact ref_zero h0 hlen B F N X Tp hd hu hret
theorem bools_rep : ∀ n : Nat, LSm.BoolsAre (List.replicate n (.bool true)) (List.replicate n true)
  | 0 => .nil
  | n + 1 => .cons _ (bools_rep n)
structure RF where
  (ys : List Value)
theorem stage5 (w : World) {qual : Str} {body : List Stmt} {scope : Scope} {cdv : Value} (hl : LawFn w qual body scope cdv)
    {p : Program} {loose : List Str} {mean : ExcName → Option Value} {mg mb : Str → Option Value} {gd : Option (List Code)} {A₀ : Around} {h₀ : Heap} {L : Addr} {s₀ s : Shared} {u : Str → Option Value}
    (B : Below A₀ h₀ [] h₀) (X : (hd.heap_39 w.params).In h₀) (Tp : Top p loose mean mg mb h₀) (hG : AllBare s.gens) (hos : s.os = s₀.os)
    {la lb : Addr} {ns : List Value} {kn : Nat} {names : List (List Nat)} {st : List Nat} {t1 t2 : Tok} {ps : Array Value} {tl : List (Addr × Obj)}
    (F : Fr h₀ L s.heap (kstB u [("names", .ref la), ("values", .ref lb), ("statement", .str (T st) t1), ("at", .int st.length t2)]))
    (N : News h₀ L s.heap ((la, W.listOf ns.toArray kn) :: (90, tabObj ps) :: tl)) (hn : Txs ns names) (hne : names ≠ []) (hok : ∀ l ∈ names, NameOk l) (hst : st.length < 2 ^ 18) :
    wpAny (model PySem.Challenge.rw_ew0021_01.row.prog w) (ktrTop (1 + claimMargin + 1) 7 gd qual scope L 230 cdv [] []) (execs (body.drop 5) (envOf qual scope L 230 cdv)) (LawEnd h₀ s₀) (fun _ _ => False) s := by
  have hl2 : LawFn w _ _ _ _ := ⟨_, _, _, _, _, _, _, _, _, _, _, by k_is⟩
  obtain ⟨rfl, rfl, rfl, rfl⟩ := hl.eqs hl2
  clear hl hl2
  dsimp only [List.drop]
  cases names with
  | nil => exact (hne rfl).elim
  | cons l0 nr =>
  cases ns with
  | nil =>
    have h := hn.1
    simp at h
  | cons v0 nsr =>
  obtain ⟨t0, rfl⟩ := hn.2 0 v0 l0 rfl rfl
  have hl0 := hok l0 (.head _)
  have hl6 := hl0.2.1
  have hx : (T st).length < 2 ^ 24 := by rw [T_len]; omega
  have hx2 : (((st.length : Nat) : Int) == ((T st).length : Int)) = true := by rw [T_len]; exact beq_self_eq_true _
  walk_at "mine go"
  unfold Stop
  rename Fr _ _ _ _ => F; rename News _ _ _ _ => N
  refine ListComp_G F rfl (by decide) rfl (by decide) rfl ?_
  walk_at "mine go"
  unfold Stop
  rename Fr _ _ _ _ => F1; rename News _ _ _ _ => N1
  refine csrc_list (σ := RF) (s := ⟨_, _, _, _, _⟩) (fun _ => _) (fun i c => c.ys = List.replicate i (.bool true)) (fun c => c.ys) (Same s) ⟨[]⟩ rfl (.inr ⟨_, rfl, ⟨_, rfl⟩, .head _, fun _ _ _ => .head _⟩) ?sz (fun _ _ _ h => h) Same.rfl F1 N1 rfl ?adr ?turn ?done
  case sz => rw [sizeLine_eq]; exact (by decide : 8 ≤ 2 ^ 24)
  case adr =>
    rintro i c h
    exact ⟨by rw [h, List.length_replicate], fun p hp => List.mem_map_of_mem hp⟩
  case turn =>
    rintro i ⟨ys⟩ s₁ v I C₁ D oI oC m₂ E' hi hs hg hoC hm₂ F₁ N₁ hlt hID hDC
    obtain ⟨h₁, k₁, rfl⟩ := hg.ex
    have hs : ys = List.replicate i (.bool true) := hs
    walk_at "mine go"
    unfold Stop
    rename Fr _ _ _ _ => F2; rename News _ _ _ _ => N2
    refine refused (hv := ?hv) B F2 N2 X Tp (by decide) (by decide) fun h' tk' F' N' => ?_
    case hv =>
      clear hlt
      match i, hi with
      | 0, hi => cases hi; exact .non
      | 1, hi => cases hi; exact .int _ _
      | 2, hi => cases hi; exact .bool _
      | 3, hi => cases hi; exact .list _ _ _ (by k_mem)
      | 4, hi => cases hi; exact .empty _
      | 5, hi => cases hi; exact .zero _ _ (by simp) (by simp; omega)
      | 6, hi => cases hi; exact .zero _ _ (by simp) (by simp; omega)
      | 7, hi => cases hi; exact .zero _ _ (by simp) (by simp; omega)
      | n + 8, hi => cases hi
    refine CEnd.mk ⟨ys ++ [.bool true]⟩ Same.rfl F' N' (by intro q hq; exact hq) ?_ rfl
    show ys ++ [.bool true] = List.replicate (i + 1) (.bool true)
    rw [hs, List.replicate_succ']
  case done =>
    rintro D ⟨ys⟩ s₁ hs hg hlt h₁ F₁ N₁
    obtain ⟨h₂, k₂, rfl⟩ := hg.ex
    have hs : ys = List.replicate 8 (.bool true) := hs
    walk_at "mine go"
    refine LSm.all_bools (s := { heap := h₁, gens := s.gens, drawn := s.drawn, toks := k₂, os := s.os }) F₁ N₁ ?hh9 (vs := ys) (show h₁.IsList D ys.toArray from ⟨_, (N₁ (D, LCg.lst ys) (.head _)).1, rfl, _, rfl⟩) (hs ▸ bools_rep 8) fun h' tk F' N' => ?_
    case hh9 => rfl
    refine ⟨rfl, F'.keep, ⟨ps, (N' (90, tabObj ps) (by k_mem)).1⟩, hG, hos⟩
end PartZ5_
section PartZ4_
local macro_rules | `(tactic| walk_at "call ref") => `(tactic| refine Stop.mk ?_)
local macro_rules | `(tactic| walk_at "no place 0") => `(tactic| skip)
local macro_rules | `(tactic| walk_at "no place 1") => `(tactic| skip)
local macro_rules | `(tactic| walk_at "no place 2") => `(tactic| skip)
theorem anew_Z4 : True := by
  w_top off
  exact trivial
local macro_rules | `(tactic| walk_at "exec For Tuple Call") => `(tactic| refine wpAny_For ?_)
local macro_rules | `(tactic| walk_at "call type:zip") => `(tactic| refine Stop.mk ?_)
theorem slice_from (l : List Nat) {a : Nat} (h : a ≤ l.length) : Txt.slice (T l) (some (a : Int)) none = T (l.drop a) := by
  have := StrLaws.sliceText_from (x := T l) (i := (a : Int)) ⟨by omega, by rw [T_list]; omega⟩
  rw [T_list, Int.toNat_natCast] at this
  rw [show ((l.length : Int) - (a : Int)).toNat = (l.drop a).length by rw [List.length_drop]; omega, List.take_length] at this
  exact this
section
variable {prog : Program} {w : World} {A : Around} {E : Value → Shared → Prop} {s : Shared} {h₀ : Heap} {L : Addr} {m : Str → Option Value} {news : List (Addr × Obj)} {value slice : Expr} {Q : Value → Shared → Prop}
/-- a text from a place on -/
theorem r_from {l y : List Nat} {a : Nat} {i : Int} {t ui : Tok} (hi : i = a) (ha : a ≤ l.length) (hy : l.drop a = y) (hl : (T l).length < 2 ^ 24)
    (F : Fr h₀ L s.heap m) (N : News h₀ L s.heap news) (hQ : ∀ h' t' k, Fr h₀ L h' m → News h₀ L h' news → Q (.str (T y) t') { s with heap := h', toks := k })
    (hs : subscripted slice false (.str (T l) t) (.ref s.heap.objs.size) = operate [.ref s.heap.objs.size, .str (T l) t] (getItem (.str (T l) t) (.ref s.heap.objs.size)) := by with_unfolding_all rfl)
    (ht : ∀ r, letTemporaryGo value (.str (T l) t) r = pure () := by intro _; with_unfolding_all rfl) :
    wpAny (model prog w) A (subscriptTail value slice (.str (T l) t) (.ref s.heap.objs.size)) Q E { s with heap := s.heap.push { cls := .type "slice", data := .fields #[.int i ui, .none, .none] } } := by
  subst hi hy
  refine slice_strN_sn F N (fun h' t' k' F' N' => ?_) hs ht (by rw [sizeLine_eq]; omega)
  rw [slice_from l ha]
  exact hQ h' t' k' F' N'
end
local macro_rules | `(tactic| walk_at "subscriptTail Name Slice str ref") => `(tactic| ((with_reducible rename Fr _ _ _ _ => F'); (with_reducible rename News _ _ _ _ => N'); first
  | (refine' r_from (s := ⟨_, _, _, _, _⟩) ?i ?a ?y ?l F' N' ?_; (case y => with_reducible assumption); (case i => with_reducible assumption); (case a => first | assumption | omega); (case l => first | assumption | omega); intro _ _ _ _ _)
  | (refine' r_pre1 (s := ⟨_, _, _, _, _⟩) rfl ?y ?l F' N' ?_; (case y => with_reducible assumption); (case l => first | assumption | omega); intro _ _ _ _ _)
  | (refine' r_slice1 (s := ⟨_, _, _, _, _⟩) rfl rfl ?y ?l F' N' ?_; (case y => with_reducible assumption); (case l => first | assumption | omega); intro _ _ _ _ _)
  | (refine' r_sliceN (s := ⟨_, _, _, _, _⟩) ?i ?j ?a ?b ?y ?l F' N' ?_; (case y => with_reducible assumption); (case i => rfl); (case j => omega); (case a => first | assumption | omega); (case b => first | assumption | omega); (case l => first | assumption | omega); intro _ _ _ _ _)))
structure L4 where
  (z : Nat) (t : Tok)
theorem Txs.get {vs : List Value} {ls : List (List Nat)} (h : Txs vs ls) {i : Nat} {v : Value} (hv : vs[i]? = some v) : ∃ l t, ls[i]? = some l ∧ v = .str (T l) t := by
  have hi := (List.getElem?_eq_some_iff.mp hv).1
  have e : ls[i]? = some (ls[i]'(h.1 ▸ hi)) := List.getElem?_eq_getElem (h.1 ▸ hi)
  obtain ⟨t, ht⟩ := h.2 i v _ hv e
  exact ⟨_, t, e, ht⟩
theorem Vls.get {w : World} {vs : List Value} {xs : List Val} {os : List (Addr × Obj)} (h : Vls w vs xs os) {i : Nat} {v : Value} (hv : vs[i]? = some v) : ∃ x o, xs[i]? = some x ∧ VIs w v o x ∧ ∀ q ∈ o, q ∈ os := by
  have hi := (List.getElem?_eq_some_iff.mp hv).1
  have e : xs[i]? = some (xs[i]'(h.1 ▸ hi)) := List.getElem?_eq_getElem (h.1 ▸ hi)
  obtain ⟨o, h1, h2⟩ := h.2 i v _ hv e
  exact ⟨_, o, e, h1, h2⟩
/-- what the second loop's turn is -/
def turnOf (body : List Stmt) : List Stmt :=
  match body.drop 4 with
  | .For _ _ b _ _ :: _ => b
  | _ => []
theorem turn4 (w : World) {qual : Str} {body : List Stmt} {scope : Scope} {cdv : Value} (hl : LawFn w qual body scope cdv)
    {p : Program} {loose : List Str} {mean : ExcName → Option Value} {mg mb : Str → Option Value} {gd : Option (List Code)} {A₀ : Around} {h₀ : Heap} {L : Addr} {s : Shared} {u : Str → Option Value}
    (B : Below A₀ h₀ [] h₀) (X : (hd.heap_39 w.params).In h₀) (Tp : Top p loose mean mg mb h₀)
    {la lb : Addr} {ns vs : List Value} {kn kv : Nat} {st pn : List Nat} {pv : Val} {v₂ : Value} {o : List (Addr × Obj)} {t1 tn tz : Tok} {ps : Array Value} {big : List (Addr × Obj)} {z j k e : Nat} {rest : List Pr} {Q : Flow → Shared → Prop}
    (F : Fr h₀ L s.heap (kstB u [("value", v₂), ("name", .str (T pn) tn), ("names", .ref la), ("values", .ref lb), ("statement", .str (T st) t1), ("at", .int z tz)]))
    (N : News h₀ L s.heap ((la, PySem.W.listOf ns.toArray kn) :: (lb, PySem.W.listOf vs.toArray kv) :: (90, tabObj ps) :: big)) (hst : st.length < 2 ^ 14) (hV : VIs w v₂ o pv) (hok2 : ValOk pv) (hO' : ∀ q ∈ o, q ∈ big)
    (hzi : ((z : Int) + 2 * (if decide ((0 : Int) < (z : Int)) = true then (1 : Int) else 0)) = (j : Int)) (hjl : j < st.length) (hq : unq 34 (st.drop (j + 1)) = (pn, (StrLaws.dbl 34 pn).length)) (hk : k = j + 1 + (StrLaws.dbl 34 pn).length + 1)
    (hk1 : (st.drop k).take 1 = [61]) (hread : st.drop (k + 1) = litVal pv ++ remOf rest) (he : e = k + 1 + (litVal pv).length)
    (hret : ∀ h' tk' t8 m', Fr h₀ L h' (kstB m' [("names", .ref la), ("values", .ref lb), ("statement", .str (T st) t1), ("at", .int e t8)]) → News h₀ L h' ((la, PySem.W.listOf ns.toArray kn) :: (lb, PySem.W.listOf vs.toArray kv) :: (90, tabObj ps) :: big) → Q .next { s with heap := h', toks := tk' }) :
    wpAny (model PySem.Challenge.rw_ew0021_01.row.prog w) (ktrTop (1 + claimMargin + 1) 7 gd qual scope L 230 cdv [] []) (execs ((turnOf body).drop 1) (envOf qual scope L 230 cdv)) Q (fun _ _ => False) s := by
  have hl2 : LawFn w _ _ _ _ := ⟨_, _, _, _, _, _, _, _, _, _, _, by k_is⟩
  obtain ⟨rfl, rfl, rfl, rfl⟩ := hl.eqs hl2
  clear hl hl2
  dsimp only [turnOf, List.drop]
  have hll : (T st).length < 2 ^ 24 := by rw [T_len]; omega
  have heq : ([61] != ([61] : List Nat)) = false := rfl
  have hpn : (pn != pn) = false := by simp
  walk_at "mine go"
  unfold Stop
  rw [hzi]
  rename Fr _ _ _ _ => F5; rename News _ _ _ _ => N5
  refine Spc.use1 (quoted_spc w st t1 _ _ 34 _) (by walk_at "mine g") ⟨by decide, by decide⟩ ⟨by omega, hjl⟩ ?_
  rintro v h6 tk6 F6 N6 ⟨a6, ta, tb, rfl, hT6⟩
  rw [hq, ← hk] at hT6
  have N7 := news_new F5 N6 hT6.1 hT6.2
  clear N5 F5 N6
  walk_at "mine go"
  unfold Stop
  rename Fr _ _ _ _ => F7; rename News _ _ _ _ => N8
  refine read_val hok2 hread (rem_head _) (by omega) rfl (by walk_at "mine g") ⟨by decide, by decide⟩ fun b8 told t8 h8 tk8 hTold hT8 F8 N9 => ?_
  rw [← he] at hT8
  have N10 := news_new F7 N9 hT8.1 hT8.2
  clear N8 N9 F7
  walk_at "mine go"
  unfold Stop
  rename Fr _ _ _ _ => F11; rename News _ _ _ _ => N11
  refine same_val hV hok2 hTold (fun q hq => by repeat (first | exact hO' q hq | apply List.Mem.tail)) ⟨by with_reducible assumption, F11, X, N11, Tp⟩ ⟨by decide, by decide⟩ fun h12 tk12 F12 N12 => ?_
  clear F11 N11
  walk_at "mine go"
  rename Fr _ _ _ _ => F13; rename News _ _ _ _ => N13
  dsimp only
  have N14 := news_mem (b := (la, PySem.W.listOf ns.toArray kn) :: (lb, PySem.W.listOf vs.toArray kv) :: (90, tabObj ps) :: big) N13 (fun q hq => by
    simp only [List.mem_cons] at hq
    rcases hq with rfl | rfl | rfl | hq
    · k_mem
    · k_mem
    · k_mem
    · repeat (first | exact hq | apply List.Mem.tail))
  exact hret h12 _ t8 _ (fr_of_pins F13 (by walk_at "mine pins")) N14
local macro_rules | `(tactic| walk_at "execs cons") => `(tactic| ((with_reducible show wpAny _ _ (execs [_, _, _, _] _) _ _ _); refine Stop.mk ?_))
theorem stage4 (w : World) {qual : Str} {body : List Stmt} {scope : Scope} {cdv : Value} (hl : LawFn w qual body scope cdv)
    {p : Program} {loose : List Str} {mean : ExcName → Option Value} {mg mb : Str → Option Value} {gd : Option (List Code)} {A₀ : Around} {h₀ : Heap} {L : Addr} {s₀ s : Shared} {u : Str → Option Value}
    (B : Below A₀ h₀ [] h₀) (X : (hd.heap_39 w.params).In h₀) (Tp : Top p loose mean mg mb h₀) (hG : AllBare s.gens) (hos : s.os = s₀.os)
    {la lb : Addr} {ns vs : List Value} {kn kv : Nat} {prs : List Pr} {t1 t2 : Tok} {ps : Array Value} {tl : List (Addr × Obj)}
    (F : Fr h₀ L s.heap (kstB u [("names", .ref la), ("values", .ref lb), ("statement", .str (T (inter [44, 32] (prs.map pairOut))) t1), ("at", .int 0 t2)]))
    (N : News h₀ L s.heap ((la, PySem.W.listOf ns.toArray kn) :: (lb, PySem.W.listOf vs.toArray kv) :: (90, tabObj ps) :: tl)) (hn : Txs ns (prs.map (·.1))) (hv : Vls w vs (prs.map (·.2)) tl)
    (hne : 0 < prs.length) (h5 : prs.length ≤ 5) (hok : ∀ p ∈ prs, NameOk p.1 ∧ ValOk p.2) :
    wpAny (model PySem.Challenge.rw_ew0021_01.row.prog w) (ktrTop (1 + claimMargin + 1) 7 gd qual scope L 230 cdv [] []) (execs (body.drop 4) (envOf qual scope L 230 cdv)) (LawEnd h₀ s₀) (fun _ _ => False) s := by
  have hs5 := @stage5 w qual body scope cdv hl p loose mean mg mb gd A₀ h₀ L s₀
  have hl2 : LawFn w _ _ _ _ := ⟨_, _, _, _, _, _, _, _, _, _, _, by k_is⟩
  have ht4 := @turn4 w qual body scope cdv hl p loose mean mg mb gd A₀ h₀ L
  obtain ⟨rfl, rfl, rfl, rfl⟩ := hl.eqs hl2
  clear hl hl2
  dsimp only [turnOf, List.drop] at hs5 ht4 ⊢
  have hst := st_len hok h5
  generalize hste : inter [44, 32] (prs.map pairOut) = st at *
  have hlen1 : ns.length = prs.length := by rw [hn.1, List.length_map]
  have hlen2 : vs.length = prs.length := by rw [hv.1, List.length_map]
  refine wpAny_execs_cons ?_
  refine wpAny_For ?_
  walk_at "mine go"
  unfold Stop
  rename Fr _ _ _ _ => F1; rename News _ _ _ _ => N1
  refine zip_src (n1 := kn) (n2 := kv) rfl F1 N1 (.head _) (.tail _ (.head _)) fun I fp wr Pv Md St h' W hPv hself hst0 hfp pl hnw F2 N2 => ?_
  rw [hlen1, hlen2, Nat.min_self] at W
  refine for_pair (σ := L4) (L := L) (fun c => [("names", .ref la), ("values", .ref lb), ("statement", .str (T st) t1), ("at", .int c.z c.t)]) (fun _ => _) (fun i c => PosAt st prs i c.z) ⟨0, t2⟩ rfl rfl rfl rfl rfl (W _ _ _) hPv hst0 pl (fun _ _ _ p hp => (hnw p hp).1) F2 N2 ?h0 (.inl ⟨rfl, rfl⟩) ?turn ?done
  case h0 => walk_at "mine pins"
  case turn =>
    rintro i ⟨z, tz⟩ u₁ h₁ tk₁ v₁ v₂ own hi ⟨hv1, hv2⟩ hP F3 N3
    clear F2 N2 W hPv hself hst0 hfp pl hnw F1 N1
    dsimp only at F3 hP ⊢
    have hpr : prs[i]? = some prs[i] := List.getElem?_eq_getElem hi
    generalize prs[i] = p at hpr
    obtain ⟨pn, pv⟩ := p
    obtain ⟨n, tn, hn1, rfl⟩ := hn.get hv1
    rw [List.getElem?_map, hpr] at hn1
    cases hn1
    obtain ⟨x, o, hx1, hV, hO⟩ := hv.get hv2
    rw [List.getElem?_map, hpr] at hx1
    cases hx1
    obtain ⟨hok1, hok2⟩ := hok _ (List.mem_of_getElem? hpr)
    obtain ⟨j, k, e, hc, hjl, hj1, hq, hk, hk1, hread, he, hP'⟩ := turn_law hste.symm hpr hP
    have N4 := news_mem (b := (la, PySem.W.listOf ns.toArray kn) :: (lb, PySem.W.listOf vs.toArray kv) :: (90, tabObj ps) :: (tl ++ own)) N3 (fun q hq => by
      simp only [List.mem_append, List.mem_cons] at hq ⊢
      rcases hq with h | h | h | h | h
      · exact .inr (.inl h)
      · exact .inr (.inr (.inl h))
      · exact .inr (.inr (.inr (.inl h)))
      · exact .inr (.inr (.inr (.inr h)))
      · exact .inl h)
    clear N3
    have hO' : ∀ q ∈ o, q ∈ tl ++ own := fun q hq => List.mem_append_left _ (hO q hq)
    have hT : ∀ q ∈ tl, q ∈ tl ++ own := fun q hq => List.mem_append_left _ hq
    have hW : ∀ q ∈ own, q ∈ tl ++ own := fun q hq => List.mem_append_right _ hq
    generalize tl ++ own = big at *
    dsimp only at F3 hP ⊢
    clear hO hv hn hv1 hv2
    have hll : (T st).length < 2 ^ 24 := by rw [T_len]; omega
    have hbig : ([34] != ([34] : List Nat)) = false := rfl
    have heq : ([61] != ([61] : List Nat)) = false := rfl
    have hpn : (pn != pn) = false := by simp
    clear hs5
    dsimp only at hV hok2 hok1
    have fin : ∀ (s' : Shared) h' tk' t8 m', s' = { s with heap := h', toks := tk' } → Fr h₀ L h' (kstB m' [("names", .ref la), ("values", .ref lb), ("statement", .str (T st) t1), ("at", .int e t8)]) → News h₀ L h' ((la, PySem.W.listOf ns.toArray kn) :: (lb, PySem.W.listOf vs.toArray kv) :: (90, tabObj ps) :: big) →
        PairEnd (fun c : L4 => [("names", .ref la), ("values", .ref lb), ("statement", .str (T st) t1), ("at", .int c.z c.t)]) (fun _ => (la, PySem.W.listOf ns.toArray kn) :: (lb, PySem.W.listOf vs.toArray kv) :: (90, tabObj ps) :: tl) (fun i c => PosAt st prs i c.z) h₀ L own i s s' := by
      rintro s' h' tk' t8 m' rfl F13 N13
      refine PairEnd.mk ⟨e, t8⟩ F13 N13 ?_ (by walk_at "mine pins") hP'
      intro q hq
      rcases List.mem_append.mp hq with hq | hq
      · repeat (first | exact hW q hq | apply List.Mem.tail)
      · simp only [List.mem_cons] at hq
        rcases hq with rfl | rfl | rfl | hq
        · k_mem
        · k_mem
        · k_mem
        · repeat (first | exact hT q hq | apply List.Mem.tail)
    rcases hc with ⟨rfl, rfl, rfl⟩ | ⟨rfl, hz0, hz2, hsep⟩
    · have hd0 : st.drop 0 = st := List.drop_zero
      have hj1 : st.take 1 = [34] := hj1
      have hzi : (((0 : Nat) : Int) + 2 * (if decide ((0 : Int) < ((0 : Nat) : Int)) = true then (1 : Int) else 0)) = ((0 : Nat) : Int) := rfl
      walk_at "mine go"
      unfold Stop
      rename Fr _ _ _ _ => F5; rename News _ _ _ _ => N5
      with_reducible refine ht4 B X Tp F5 N5 hst hV hok2 hO' hzi hjl hq hk hk1 hread he ?_
      intro h' tk' t8 m' F13 N13
      exact fin _ h' tk' t8 m' rfl F13 N13
    · have hd0 : st.drop (z + 2) = st.drop (z + 2) := rfl
      have hpos : decide ((0 : Int) < (z : Int)) = true := decide_eq_true (by omega)
      have hzi : ((z : Int) + 2 * (if decide ((0 : Int) < (z : Int)) = true then (1 : Int) else 0)) = ((z + 2 : Nat) : Int) := by rw [hpos]; rfl
      have hsep2 : (st.drop z).take (z + 2 - z) = [44, 32] := by rw [Nat.add_sub_cancel_left]; exact hsep
      have hb2 : ([44, 32] != ([44, 32] : List Nat)) = false := rfl
      have hll2 : (T (st.drop (z + 2))).length < 2 ^ 24 := by rw [T_len, List.length_drop]; omega
      walk_at "mine go"
      unfold Stop
      rename Fr _ _ _ _ => F5; rename News _ _ _ _ => N5
      with_reducible refine ht4 B X Tp F5 N5 hst hV hok2 hO' hzi hjl hq hk hk1 hread he ?_
      intro h' tk' t8 m' F13 N13
      exact fin _ h' tk' t8 m' rfl F13 N13
  case done =>
    rintro ⟨z, tz⟩ u₁ h₁ tk₁ hP F3 N3
    have hz : z = st.length := end_law hP hne
    subst hz
    dsimp only at F3 N3 ⊢
    have N4 := news_mem (b := (la, PySem.W.listOf ns.toArray kn) :: (90, tabObj ps) :: tl) N3 (fun q hq => by
      simp only [List.mem_cons] at hq ⊢
      rcases hq with h | h | h
      · exact .inl h
      · exact .inr (.inr (.inl h))
      · exact .inr (.inr (.inr h)))
    have hne' : prs.map (·.1) ≠ [] := fun e => by
      rw [List.map_eq_nil_iff.mp e] at hne
      exact Nat.lt_irrefl _ hne
    have hok' : ∀ l ∈ prs.map (·.1), NameOk l := fun l hl => by
      obtain ⟨p, hp, rfl⟩ := List.mem_map.mp hl
      exact (hok p hp).1
    have hlt : st.length < 2 ^ 18 := by omega
    with_reducible exact hs5 B X Tp hG hos F3 N4 hn hne' hok' hlt
end PartZ4_
section PartL11_
set_option maxRecDepth 100000
set_option maxHeartbeats 4000000
open LCg (lst NsObj)
section
variable {prog : Program} {w : World} {A : Around} {s : Shared} {h₀ : Heap} {L : Addr} {m : Str → Option Value} {env : Env}
/-- for x in range(n), all that is made in the turns may grow -/
theorem for_range {σ : Type} {Q : Flow → Shared → Prop} {x : Str} {px : Pos} {body : List Stmt} {ax : Addr} {b : Int} {t u v : Tok} (n I : Nat)
    (ps : σ → List (Str × Value)) (nw : σ → List (Addr × Obj)) (P : Nat → σ → Prop) (c₀ : σ) (hh : A.handled = none)
    (hr : IsRange s.heap ax 0 b 1 t u v) (hb : b = n) (hn : n ≤ 1000) (hI : s.heap.objs.size = I)
    (hL : env.locals = L) (hx : env.kindOf x = some .local) (hk : (env.scope.kind == .class || (env.scope.kind == .module && env.locals != env.globals)) = false)
    (F : Fr h₀ L s.heap m) (N : News h₀ L s.heap (nw c₀)) (h0 : ∀ p ∈ ps c₀, m p.1 = some p.2) (hp0 : P 0 c₀) (hInw : ∀ c i, P i c → ∀ p ∈ nw c, p.1 ≠ I)
    (turn : ∀ i (c : σ) u h₁ tk₁ tv oI, i < n → P i c → Fr h₀ L h₁ (kstB u ((x, .int i tv) :: ps c)) → News h₀ L h₁ ((I, oI) :: nw c) →
      wpAny (model prog w) A (execs body env) (fun f s₃ => match f with
            | .ret v => Q (.ret v) s₃
            | .brk => Q .next s₃
            | _ => ForEnd ps nw P h₀ L I oI i s s₃) (fun _ _ => False) { s with heap := h₁, toks := tk₁ })
    (done : ∀ (c : σ) u h₁ tk₁, P n c → Fr h₀ L h₁ (kstB u (ps c)) → News h₀ L h₁ (nw c) → Q .next { s with heap := h₁, toks := tk₁ }) :
    wpAny (model prog w) A (pyIter (.ref ax)) (fun it s₂ => codeAny (model prog w) A (.forLoop (.Name x px) it body [] env) (fun r s' => match r with | .ok f => Q f s' | .error e => cameBackBy (model prog w) A env (fun _ _ => False) e s') s₂) (fun _ _ => False) s := by
  subst hb hI
  obtain ⟨hIL, hI₀⟩ := fresh_above F (Nat.le_refl _)
  have hsz : Builtin.Range.rangeSize 0 (n : Int) 1 = ((n : Nat) : Int) := by
    unfold Builtin.Range.rangeSize
    rw [if_pos (by decide)]
    split <;> omega
  have hsm : Builtin.Range.small 0 (n : Int) 1 = true := small_one (by decide) (by decide) (by omega) (by omega)
  refine wpAny_pyIter_range hr hsm ?_
  refine for_walk (V := fun i v => ∃ t, v = .int (0 + (i : Int)) t) (s := { s with heap := s.heap.push _ }) ps nw P c₀ hL hx hk (LCg.range_walks hh 0 n) ?st (fun i h st => ⟨_, st⟩) hIL hI₀ (fun c p hp hP => hP.elim fun i hP => hInw c i hP p hp) (fun b hb => .inl (List.mem_singleton.mp hb)) (fun hb => hIL (List.mem_singleton.mp hb).symm) (F.push _) (N.keeps fun b o' e => Heap.get?_push_of_some _ e) h0 hp0 ?_ ?_
  case st =>
    show IsRangeIter _ _ _ _ _
    rw [hsz]
    simpa using Heap.get?_push_size _ rfl
  · rintro i c u h₁ tk₁ v oI hi ⟨tv, rfl⟩ hP F₁ N₁
    rw [Int.zero_add] at F₁
    refine wpAny_mono (turn i c u h₁ tk₁ tv oI hi hP F₁ N₁) (fun f s₃ h₃ => ?_) fun _ _ x => x
    cases f <;> exact h₃
  · intro c u h₁ tk₁ hP F₁ N₁
    exact done c u h₁ tk₁ hP F₁ N₁
/-- append to a list of the ledger -/
theorem r_append {E : Value → Shared → Prop} {D : Addr} {its : Array Value} {n : Nat} {x : Value} {news rest : List (Addr × Obj)} {Q : Value → Shared → Prop} (F : Fr h₀ L s.heap m) (N : News h₀ L s.heap news) (hm : (D, PySem.W.listOf its n) ∈ news)
    (hs : ∀ q ∈ rest, q ∈ news ∧ q.1 ≠ D) (hsz : its.size ≤ 1000)
    (hQ : ∀ h', Fr h₀ L h' m → News h₀ L h' ((D, PySem.W.listOf (its.push x) (n + 1)) :: rest) → Q .none { s with heap := h' }) :
    wpAny (model prog w) A (call (.builtin "list.append") [.ref D, x]) Q E s := by
  refine append_head (rest := rest) (n := n) (its := its) F (fun q hq => ?_) (fun p hp => (hs p hp).2) hQ (by rw [sizeLine_eq]; omega)
  rcases List.mem_cons.mp hq with rfl | hq
  · exact N _ hm
  · exact N _ (hs q hq).1
end
end PartL11_
section PartZ3_
local macro_rules | `(tactic| walk_at "call ref") => `(tactic| refine Stop.mk ?_)
theorem anew_Z3 : True := by
  w_top off
  exact trivial
local macro_rules | `(tactic| walk_at "eval ListComp") => `(tactic| refine Stop.mk ?_)
local macro_rules | `(tactic| walk_at "call type:zip") => `(tactic| refine Stop.mk ?_)
local macro_rules | `(tactic| walk_at "binaryOp Add str str") => `(tactic| (refine' r_add ?l ?_; (case l => (simp only [List.length_append, List.length_cons, List.length_nil]; omega)); intro _ _))
local macro_rules | `(tactic| walk_at "execs cons") => `(tactic| ((with_reducible show wpAny _ _ (execs [_, _, _] _) _ _ _); refine Stop.mk ?_))
structure S3 where
  (ps : Array Value) (ys : List Value)
theorem stage3 (w : World) {qual : Str} {body : List Stmt} {scope : Scope} {cdv : Value} (hl : LawFn w qual body scope cdv)
    {p : Program} {loose : List Str} {mean : ExcName → Option Value} {mg mb : Str → Option Value} {gd : Option (List Code)} {A₀ : Around} {h₀ : Heap} {L : Addr} {s₀ s : Shared} {u : Str → Option Value}
    (B : Below A₀ h₀ [] h₀) (X : (hd.heap_39 w.params).In h₀) (Tp : Top p loose mean mg mb h₀) (C : CodeHd h₀ 94 90) (h90 : h₀.get? 90 = none) (hG : AllBare s.gens) (hos : s.os = s₀.os)
    {la lb : Addr} {ns vs : List Value} {kn kv : Nat} {prs : List Pr} {ps : Array Value} {tl : List (Addr × Obj)}
    (F : Fr h₀ L s.heap (kstB u [("names", .ref la), ("values", .ref lb)]))
    (N : News h₀ L s.heap ((90, tabObj ps) :: (la, PySem.W.listOf ns.toArray kn) :: (lb, PySem.W.listOf vs.toArray kv) :: tl)) (hT : TriplesOk ps.toList) (hn : Txs ns (prs.map (·.1))) (hv : Vls w vs (prs.map (·.2)) tl)
    (hla : la ≠ 90) (hlb : lb ≠ 90) (htl : ∀ q ∈ tl, q.1 ≠ 90)
    (hne : 0 < prs.length) (h5 : prs.length ≤ 5) (hok : ∀ p ∈ prs, NameOk p.1 ∧ ValOk p.2) :
    wpAny (model PySem.Challenge.rw_ew0021_01.row.prog w) (ktrTop (1 + claimMargin + 1) 7 gd qual scope L 230 cdv [] []) (execs (body.drop 3) (envOf qual scope L 230 cdv)) (LawEnd h₀ s₀) (fun _ _ => False) s := by
  have hs4 := @stage4 w qual body scope cdv hl p loose mean mg mb gd A₀ h₀ L s₀
  have hl2 : LawFn w _ _ _ _ := ⟨_, _, _, _, _, _, _, _, _, _, _, by k_is⟩
  obtain ⟨rfl, rfl, rfl, rfl⟩ := hl.eqs hl2
  clear hl hl2
  dsimp only [List.drop] at hs4 ⊢
  have hlen1 : ns.length = prs.length := by rw [hn.1, List.length_map]
  have hlen2 : vs.length = prs.length := by rw [hv.1, List.length_map]
  walk_at "mine go"
  unfold Stop
  rename Fr _ _ _ _ => F1; rename News _ _ _ _ => N1
  refine ListComp_pair F1 rfl (by decide) rfl (by decide) rfl rfl (by decide) ?_
  walk_at "mine go"
  unfold Stop
  rename Fr _ _ _ _ => F1; rename News _ _ _ _ => N1
  refine zip_src (n1 := kn) (n2 := kv) rfl F1 N1 (by k_mem) (by k_mem) fun I fp wr Pv Md St h' W hPv hself hst0 hfp pl hnw F2 N2 => ?_
  rw [hlen1, hlen2, Nat.min_self] at W
  have h90s : @LT.lt Nat _ 90 s.heap.objs.size := Heap.lt_size (N1 (90, tabObj ps) (.head _)).1
  have hla' : @Ne Nat la 90 := hla
  have hlb' : @Ne Nat lb 90 := hlb
  refine ⟨S3, fun c => (90, tabObj c.ps) :: (la, PySem.W.listOf ns.toArray kn) :: (lb, PySem.W.listOf vs.toArray kv) :: tl, fun i c => TriplesOk c.ps.toList ∧ c.ys.length = i ∧ StrsAre c.ys ((prs.take i).map fun p => T (pairOut p)), fun c => c.ys, fun s' => AllBare s'.gens ∧ s'.os = s₀.os, ⟨ps, []⟩, I, prs.length, fp, wr, fun i v₁ v₂ => ns[i]? = some v₁ ∧ vs[i]? = some v₂, Pv, Md, St, rfl, W _ _ _, hPv, hself, rfl, ?sz, hst0, fun b hb => (hfp b hb).1, pl, fun _ _ _ h => h, ⟨hG, hos⟩, F2, N2, ?adr, ⟨hT, rfl, .nil⟩, ?turn, ?done⟩
  case sz => rw [sizeLine_eq]; omega
  case adr =>
    rintro i c ⟨_, h, _⟩
    refine ⟨h, fun q hq => ?_⟩
    rcases List.mem_cons.mp hq with rfl | hq
    · exact hnw (90, tabObj ps) (.head _)
    · exact hnw q (.tail _ hq)
  case turn =>
    rintro i ⟨ps₁, ys⟩ s₁ v₁ v₂ own C₁ D oC m₂ E' hi ⟨hv1, hv2⟩ ⟨ht₁, hy, hs⟩ ⟨hG₁, ho₁⟩ hoC hm1 hm2 F₁ N₁ hD hown hDC
    dsimp only at hy hs N₁ hD
    have hown' : ∀ q ∈ own, q.1 ≠ 90 := fun q hq e => by
      have e : @Eq Nat q.1 90 := e
      rcases (hfp _ (hown q hq)).2 with h | h | h
      · have h : @Eq Nat q.1 la := h; omega
      · have h : @Eq Nat q.1 lb := h; omega
      · have h : @LE.le Nat _ s.heap.objs.size q.1 := h; omega
    have h90D : @LT.lt Nat _ 90 D := hD (90, tabObj ps₁) (List.mem_append_right _ (.head _))
    clear N2 F2 W hPv hself hst0 hfp pl hnw hown hD N1 F1
    have hpr : prs[i]? = some prs[i] := List.getElem?_eq_getElem hi
    generalize prs[i] = p at hpr
    obtain ⟨pn, pv⟩ := p
    obtain ⟨n, tn, hn1, rfl⟩ := hn.get hv1
    rw [List.getElem?_map, hpr] at hn1
    cases hn1
    obtain ⟨x, o, hx1, hV, hO⟩ := hv.get hv2
    rw [List.getElem?_map, hpr] at hx1
    cases hx1
    obtain ⟨hok1, hok2⟩ := hok _ (List.mem_of_getElem? hpr)
    dsimp only at hV hok1 hok2 hm1
    have hb1 := dbl_len 34 pn
    have hb2 : pn.length ≤ 6 := hok1.2.1
    have hb3 := litVal_len hok2
    have N4 := news_mem (b := (90, tabObj ps₁) :: (C₁, oC) :: (D, LCg.lst ys) :: (la, PySem.W.listOf ns.toArray kn) :: (lb, PySem.W.listOf vs.toArray kv) :: (tl ++ own)) N₁ (fun q hq => by
      simp only [List.mem_append, List.mem_cons] at hq ⊢
      rcases hq with h | h | h | h | h | h | h
      · exact .inr (.inr (.inr (.inl h)))
      · exact .inr (.inl h)
      · exact .inr (.inr (.inl h))
      · exact .inr (.inr (.inr (.inr (.inl h))))
      · exact .inr (.inr (.inr (.inr (.inr (.inl h)))))
      · exact .inr (.inr (.inr (.inr (.inr (.inr h)))))
      · exact .inl h)
    clear N₁
    have hO' : ∀ q ∈ o, q ∈ tl ++ own := fun q hq => List.mem_append_left _ (hO q hq)
    have hTl : ∀ q ∈ tl, q ∈ tl ++ own := fun q hq => List.mem_append_left _ hq
    have hW : ∀ q ∈ own, q ∈ tl ++ own := fun q hq => List.mem_append_right _ hq
    have hbn : ∀ q ∈ tl ++ own, q.1 ≠ 90 := fun q hq => by
      rcases List.mem_append.mp hq with hq | hq
      · exact htl q hq
      · exact hown' q hq
    generalize tl ++ own = big at *
    clear hO hv1 hv2 hown'
    walk_at "mine go"
    unfold Stop
    rename Fr _ _ _ _ => F5; rename News _ _ _ _ => N5
    refine Spc.use1 (ident_spc w pn _ hok1.1 hok1.zero (by omega)) (by walk_at "mine g") ⟨by decide, by decide⟩ trivial ?_
    rintro v h6 tk6 F6 N6 ⟨ta, rfl⟩
    clear N5 F5
    walk_at "mine go"
    unfold Stop
    rename Fr _ _ _ _ => F7; rename News _ _ _ _ => N7
    have hDn : D ≠ 90 := fun e => by
      have e : @Eq Nat D 90 := e
      omega
    have hCn : C₁ ≠ 90 := fun e => by
      have e : @Eq Nat C₁ 90 := e
      have hDC : @LT.lt Nat _ D C₁ := hDC
      omega
    refine lit_val hV hok2 (fun q hq => by repeat (first | exact hO' q hq | apply List.Mem.tail)) ⟨by with_reducible assumption, F7, X, Tp, C, h90, hG₁, ht₁⟩ N7 (fun q hq => ?_) ⟨by decide, by decide⟩ fun t8 s8 ps8 F8 N8 ht8 hG8 ho8 => ?_
    · simp only [List.mem_cons] at hq
      rcases hq with rfl | rfl | rfl | rfl | hq
      · exact hCn
      · exact hDn
      · exact hla
      · exact hlb
      · exact hbn q hq
    clear N7 F7
    walk_at "mine go"
    show CEndP _ _ _ _ _ _ _ _ _ _ _ _ _ _ _
    refine CEndP.mk ⟨ps8, ys ++ [.str (T (pairOut (pn, pv))) _]⟩ ⟨hG8, ho8.trans ho₁⟩ F8 N8 (fun q hq => ?_) ⟨ht8, by simp [hy], ?_⟩ rfl
    · rcases List.mem_append.mp hq with hq | hq
      · repeat (first | exact hW q hq | apply List.Mem.tail)
      · simp only [List.mem_cons] at hq
        rcases hq with rfl | rfl | rfl | rfl | rfl | hq
        · k_mem
        · k_mem
        · k_mem
        · k_mem
        · k_mem
        · repeat (first | exact hTl q hq | apply List.Mem.tail)
    · rw [List.take_add_one, hpr, List.map_append]
      exact strs_snoc hs _ _
  case done =>
    rintro D ⟨ps₁, ys⟩ s₁ ⟨ht₁, hy, hs⟩ ⟨hG₁, ho₁⟩ hlt h₁ F₁ N₁
    dsimp only at hs F₁ N₁
    clear N2 F2 W hPv hself hst0 hfp pl hnw N1 F1
    have hs' : StrsAre ys.toArray.toList ((prs.map pairOut).map T) := by
      rw [List.take_length] at hs
      rw [List.map_map]; exact hs
    have hb := st_sum hok h5
    have hb4 : ((prs.map pairOut).map fun l => l.length + 1).sum ≤ 1048576 := Nat.le_trans hb (by decide)
    walk_at "mine go"
    unfold Stop
    rename Fr _ _ _ _ => F9; rename News _ _ _ _ => N9
    have N10 := news_mem (b := (la, PySem.W.listOf ns.toArray kn) :: (lb, PySem.W.listOf vs.toArray kv) :: (90, tabObj ps₁) :: tl) N9 (fun q hq => by
      simp only [List.mem_cons] at hq
      rcases hq with rfl | rfl | rfl | hq
      · k_mem
      · k_mem
      · k_mem
      · repeat (first | exact hq | apply List.Mem.tail))
    exact hs4 B X Tp hG₁ ho₁ (fr_of_pins F9 (by walk_at "mine pins")) N10 hn hv hne h5 hok
end PartZ3_
section PartZ2_
local macro_rules | `(tactic| walk_at "call ref") => `(tactic| refine Stop.mk ?_)
theorem anew_Z2 : True := by
  w_top off
  exact trivial
local macro_rules | `(tactic| walk_at "call type:range") => `(tactic| ((fail_if_success (with_reducible show wpAny _ _ (call _ [Value.int (Nat.cast _) _]) _ _ _)); refine Stop.mk ?_))
structure Kept (P : Prop) : Prop where
  out : P
local macro_rules | `(tactic| walk_at "pyIter ref") => `(tactic| refine Stop.mk ?_)
local macro_rules | `(tactic| walk_at "call builtin:list.append") => `(tactic| refine Stop.mk ?_)
local macro_rules | `(tactic| walk_at "subscriptTail Name Constant ref int") => `(tactic| (refine' r_itemN (i := 0) ?N ?m ?h rfl ?a ?b ?_; (case N => with_reducible assumption); (case m => k_mem); (case h => assumption); (case a => omega); (case b => omega); intro _))
local macro_rules | `(tactic| walk_at "subscriptTail Name BinOp ref int") => `(tactic| (refine' r_itemN ?N ?m ?h rfl ?a ?b ?_; (case N => with_reducible assumption); (case m => k_mem); (case h => assumption); (case a => first | assumption | omega); (case b => first | assumption | omega); intro _))
theorem news_objs {h₀ h h' : Heap} {L : Addr} {m : Str → Option Value} {o news : List (Addr × Obj)} (F : Fr h₀ L h m) (N' : News h₀ L h' news) (O : ObjsIn h h' o) : News h₀ L h' (o ++ news) := by
  intro q hq
  rcases List.mem_append.mp hq with hq | hq
  · have N1 := news_new (news := []) F (fun _ h => nomatch h) (O q hq).2 (O q hq).1
    exact N1 q (.head _)
  · exact N' q hq
theorem objs_ne {h₀ h h' : Heap} {L a : Addr} {o news : List (Addr × Obj)} {oa : Obj} (N : News h₀ L h news) (hm : (a, oa) ∈ news) (O : ObjsIn h h' o) : ∀ q ∈ o, q.1 ≠ a := by
  intro q hq e
  have h1 := (O q hq).2
  have h2 := (N _ hm).1
  rw [e] at h1
  rw [h1] at h2
  cases h2
structure S2 where
  (ns vs : List Value) (kn kv : Nat) (prs : List Pr) (os : List (Addr × Obj))
theorem stage2 (w : World) {qual : Str} {body : List Stmt} {scope : Scope} {cdv : Value} (hl : LawFn w qual body scope cdv)
    {p : Program} {loose : List Str} {mean : ExcName → Option Value} {mg mb : Str → Option Value} {gd : Option (List Code)} {A₀ : Around} {h₀ : Heap} {L : Addr} {s₀ s : Shared} {u : Str → Option Value}
    (B : Below A₀ h₀ [] h₀) (X : (hd.heap_39 w.params).In h₀) (Tp : Top p loose mean mg mb h₀) (C : CodeHd h₀ 94 90) (h90 : h₀.get? 90 = none) (hG : AllBare s.gens) (hos : s.os = s₀.os)
    {la lb ln : Addr} {nv : List Value} {k0 : Nat} {ns : List Nat}
    (F : Fr h₀ L s.heap (kstB u [("numbers", .ref ln), ("names", .ref la), ("values", .ref lb)]))
    (N : News h₀ L s.heap ((la, PySem.W.listOf #[] 0) :: (lb, PySem.W.listOf #[] 0) :: (ln, PySem.W.listOf nv.toArray k0) :: (90, tabObj #[]) :: [])) (hnums : Nums nv ns) (hn4 : 4 ≤ ns.length) (hn14 : ns.length ≤ 14) (hnb : ∀ n ∈ ns, n < 10 ^ 10)
    (hab : la ≠ lb) (han : la ≠ ln) (hbn : lb ≠ ln) (ha9 : la ≠ 90) (hb9 : lb ≠ 90) :
    wpAny (model PySem.Challenge.rw_ew0021_01.row.prog w) (ktrTop (1 + claimMargin + 1) 7 gd qual scope L 230 cdv [] []) (execs (body.drop 2) (envOf qual scope L 230 cdv)) (LawEnd h₀ s₀) (fun _ _ => False) s := by
  have hs3 := @stage3 w qual body scope cdv hl p loose mean mg mb gd A₀ h₀ L s₀
  have hl2 : LawFn w _ _ _ _ := ⟨_, _, _, _, _, _, _, _, _, _, _, by k_is⟩
  obtain ⟨rfl, rfl, rfl, rfl⟩ := hl.eqs hl2
  clear hl hl2
  dsimp only [List.drop] at hs3 ⊢
  have hnv : nv.toArray.size = ns.length := by rw [List.size_toArray]; exact hnums.1
  refine wpAny_execs_cons ?_
  refine wpAny_For ?_
  walk_at "mine go"
  unfold Stop
  obtain ⟨np, hnp⟩ : ∃ np : Nat, np = 2 + ns.getD 0 0 % 4 := ⟨_, rfl⟩
  rw [show (2 : Int) + ((ns.getD 0 0 % 4 : Nat) : Int) = (np : Int) by rw [hnp]; rfl]
  replace hnp := Kept.mk hnp
  walk_at "mine go"
  unfold Stop
  replace hnp := hnp.out
  have hnp2 : 2 ≤ np := by omega
  have hnp5 : np ≤ 5 := by omega
  clear hnp
  rename Fr _ _ _ _ => F1; rename News _ _ _ _ => N1; rename IsRange _ _ _ _ _ _ _ _ => hR
  rename Heap => h1
  obtain ⟨I0, hI0⟩ : ∃ I0, h1.objs.size = I0 := ⟨_, rfl⟩
  have hIa : ∀ q ∈ [(la, PySem.W.listOf #[] 0), (lb, PySem.W.listOf #[] 0), (ln, PySem.W.listOf nv.toArray k0), (90, tabObj #[])], q.1 ≠ I0 := fun q hq e => by
    have h := Heap.lt_size (N1 q hq).1
    rw [hI0, e] at h
    exact Nat.lt_irrefl _ h
  refine for_range (σ := S2) (L := L) (s := ⟨_, _, _, _, _⟩) np I0 (fun _ => [("numbers", .ref ln), ("names", .ref la), ("values", .ref lb)]) (fun c => (la, PySem.W.listOf c.ns.toArray c.kn) :: (lb, PySem.W.listOf c.vs.toArray c.kv) :: (ln, PySem.W.listOf nv.toArray k0) :: (90, tabObj #[]) :: c.os)
    (fun i c => c.prs.length = i ∧ Txs c.ns (c.prs.map (·.1)) ∧ Vls w c.vs (c.prs.map (·.2)) c.os ∧ (∀ p ∈ c.prs, NameOk p.1 ∧ ValOk p.2) ∧ (∀ q ∈ c.os, q.1 ≠ la ∧ q.1 ≠ lb ∧ q.1 ≠ 90 ∧ q.1 ≠ I0))
    ⟨[], [], 0, 0, [], []⟩ rfl hR rfl (by omega) hI0 rfl rfl rfl F1 N1 ?h0 ⟨rfl, Txs.nil, Vls.nil, (fun _ h => nomatch h), (fun _ h => nomatch h)⟩ ?inw ?turn ?done
  case h0 => walk_at "mine pins"
  case inw =>
    rintro c i ⟨_, _, _, _, h⟩ q hq
    rcases List.mem_cons.mp hq with rfl | hq
    · exact hIa (la, PySem.W.listOf #[] 0) (.head _)
    rcases List.mem_cons.mp hq with rfl | hq
    · exact hIa (lb, PySem.W.listOf #[] 0) (.tail _ (.head _))
    rcases List.mem_cons.mp hq with rfl | hq
    · exact hIa (ln, PySem.W.listOf nv.toArray k0) (.tail _ (.tail _ (.head _)))
    rcases List.mem_cons.mp hq with rfl | hq
    · exact hIa (90, tabObj #[]) (.tail _ (.tail _ (.tail _ (.head _))))
    · exact (h q hq).2.2.2
  case done =>
    rintro ⟨ys, zs, ky, kz, prs, os⟩ u₁ h₁ tk₁ ⟨hl, hy, hz, hok, hoa⟩ F3 N3
    dsimp only at hl hy hz hok hoa F3 N3
    have N4 := news_mem (b := (90, tabObj #[]) :: (la, PySem.W.listOf ys.toArray ky) :: (lb, PySem.W.listOf zs.toArray kz) :: os) N3 (fun q hq => by
      simp only [List.mem_cons] at hq ⊢
      rcases hq with h | h | h | h
      · exact .inr (.inr (.inr (.inl h)))
      · exact .inl h
      · exact .inr (.inl h)
      · exact .inr (.inr (.inr (.inr h))))
    dsimp only
    have hT0 : TriplesOk (#[] : Array Value).toList := by trivial
    have F4 := fr_of_pins (ps := [("names", .ref la), ("values", .ref lb)]) F3 (by walk_at "mine pins")
    have h5a : 0 < prs.length := by omega
    have h5b : prs.length ≤ 5 := by omega
    have hoa' : ∀ q ∈ os, q.1 ≠ 90 := fun q hq => (hoa q hq).2.2.1
    with_reducible exact hs3 B X Tp C h90 hG hos F4 N4 hT0 hy hz ha9 hb9 hoa' h5a h5b hok
  case turn =>
    rintro i ⟨ys, zs, ky, kz, prs, os⟩ u₁ h₁ tk₁ tv oI hi ⟨hl, hy, hz, hok, hoa⟩ F3 N3
    dsimp only at hl hy hz hok hoa F3 N3 ⊢
    clear hs3 F1 N1 hR hI0
    have hys : ys.length = i := by rw [hy.1, List.length_map]; exact hl
    have hzs : zs.length = i := by rw [hz.1, List.length_map]; exact hl
    have hi5 : i < 5 := by omega
    have e1 : (2 : Int) * (i : Int) + 1 = ((2 * i + 1 : Nat) : Int) := by omega
    have e2 : (2 : Int) * (i : Int) + 2 = ((2 * i + 2 : Nat) : Int) := by omega
    have m1 : (2 * i + 1) % ns.length < ns.length := Nat.mod_lt _ (by omega)
    have m2 : (2 * i + 2) % ns.length < ns.length := Nat.mod_lt _ (by omega)
    have m3 : (2 * i + 1) % ns.length < 1000 := by omega
    have m4 : (2 * i + 2) % ns.length < 1000 := by omega
    have hpos : 0 < ns.length := by omega
    have hd : 0 < 1 + i / 4 ∧ 1 + i / 4 < 2 ^ 30 := by omega
    obtain ⟨hd1, hd2⟩ := hd
    walk_at "mine go"
    unfold Stop
    have hf : ∀ j, ns.getD (j % ns.length) 0 / (1 + i / 4) < 10 ^ 10 := fun j => by
      have hj : j % ns.length < ns.length := Nat.mod_lt _ hpos
      rw [List.getD_eq_getElem?_getD, List.getElem?_eq_getElem hj, Option.getD_some]
      exact Nat.lt_of_le_of_lt (Nat.div_le_self _ _) (hnb _ (List.getElem_mem hj))
    have hf1 := hf (2 * i + 1)
    have hf2 := hf (2 * i + 2)
    rw [show (1 : Int) + ((ns.getD ((2 * i + 1) % ns.length) 0 / (1 + i / 4) % 6 : Nat) : Int) = ((1 + ns.getD ((2 * i + 1) % ns.length) 0 / (1 + i / 4) % 6 : Nat) : Int) from rfl]
    generalize ns.getD ((2 * i + 1) % ns.length) 0 / (1 + i / 4) = f at *
    generalize ns.getD ((2 * i + 2) % ns.length) 0 / (1 + i / 4) = g at *
    rename Fr _ _ _ _ => F5; rename News _ _ _ _ => N5
    refine Spc.use1 (text_spc w (f / 6) (1 + f % 6) _ _ (Nat.lt_of_le_of_lt (Nat.div_le_self _ _) hf1) (by omega)) (by walk_at "mine g") ⟨by decide, by decide⟩ trivial ?_
    rintro v h6 tk6 F6 N6 ⟨ta, rfl⟩
    clear F5 N5
    have hIa1 : la ≠ I0 := hIa (la, PySem.W.listOf #[] 0) (.head _)
    have hIa2 : lb ≠ I0 := hIa (lb, PySem.W.listOf #[] 0) (.tail _ (.head _))
    walk_at "mine go"
    unfold Stop
    rename Fr _ _ _ _ => F5; rename News _ _ _ _ => N5
    refine r_append (s := ⟨_, _, _, _, _⟩) (its := ys.toArray) (n := ky) (rest := (I0, oI) :: (lb, PySem.W.listOf zs.toArray kz) :: (ln, PySem.W.listOf nv.toArray k0) :: (90, tabObj #[]) :: os) F5 N5 (by k_mem) (fun q hq => ?_) (by rw [List.size_toArray]; omega) fun h7 F7 N7 => ?_
    · simp only [List.mem_cons] at hq
      rcases hq with rfl | rfl | rfl | rfl | hq
      · exact ⟨by k_mem, hIa1.symm⟩
      · exact ⟨by k_mem, hab.symm⟩
      · exact ⟨by k_mem, han.symm⟩
      · exact ⟨by k_mem, ha9.symm⟩
      · exact ⟨by repeat (first | exact hq | apply List.Mem.tail), (hoa q hq).1⟩
    clear F5 N5
    walk_at "mine go"
    unfold Stop
    rename Fr _ _ _ _ => F8; rename News _ _ _ _ => N8
    refine Spc.use1 (worth_spc w g _ hf2) (by walk_at "mine g") ⟨by decide, by decide⟩ trivial ?_
    rintro v h9 tk9 F9 N9 ⟨o2, hV, hO⟩
    have o2a := objs_ne (a := la) (oa := PySem.W.listOf (ys.toArray.push (.str (T (textOf (f / 6) (1 + f % 6))) ta)) (ky + 1)) N8 (by k_mem) hO
    have o2b := objs_ne (a := lb) (oa := PySem.W.listOf zs.toArray kz) N8 (by k_mem) hO
    have o29 := objs_ne (a := 90) (oa := tabObj #[]) N8 (by k_mem) hO
    have o2I := objs_ne (a := I0) (oa := oI) N8 (by k_mem) hO
    have N10 := news_objs F8 N9 hO
    have N11 := news_mem (b := (I0, oI) :: (la, PySem.W.listOf (ys.toArray.push (.str (T (textOf (f / 6) (1 + f % 6))) ta)) (ky + 1)) :: (lb, PySem.W.listOf zs.toArray kz) :: (ln, PySem.W.listOf nv.toArray k0) :: (90, tabObj #[]) :: (o2 ++ os)) N10 (fun q hq => by
      simp only [List.mem_append, List.mem_cons] at hq ⊢
      rcases hq with h | h | h | h | h | h | h
      · exact .inr (.inr (.inl h))
      · exact .inr (.inl h)
      · exact .inr (.inr (.inr (.inl h)))
      · exact .inr (.inr (.inr (.inr (.inl h))))
      · exact .inr (.inr (.inr (.inr (.inr (.inl h)))))
      · exact .inl h
      · exact .inr (.inr (.inr (.inr (.inr (.inr h))))))
    have hoa2 : ∀ q ∈ o2 ++ os, q.1 ≠ la ∧ q.1 ≠ lb ∧ q.1 ≠ 90 ∧ q.1 ≠ I0 := fun q hq => by
      rcases List.mem_append.mp hq with hq | hq
      · exact ⟨o2a q hq, o2b q hq, o29 q hq, o2I q hq⟩
      · exact hoa q hq
    have hz2 := hz.snoc hV
    clear N10 N9 N8 F8 hO o2a o2b o29 o2I hoa hz
    generalize hos2 : o2 ++ os = os2 at *
    clear hos2 hV
    walk_at "mine go"
    unfold Stop
    rename Fr _ _ _ _ => F12; rename News _ _ _ _ => N12
    refine r_append (s := ⟨_, _, _, _, _⟩) (its := zs.toArray) (n := kz) (rest := (I0, oI) :: (la, PySem.W.listOf (ys.toArray.push (.str (T (textOf (f / 6) (1 + f % 6))) ta)) (ky + 1)) :: (ln, PySem.W.listOf nv.toArray k0) :: (90, tabObj #[]) :: os2) F12 N12 (by k_mem) (fun q hq => ?_) (by rw [List.size_toArray]; omega) fun h13 F13 N13 => ?_
    · simp only [List.mem_cons] at hq
      rcases hq with rfl | rfl | rfl | rfl | hq
      · exact ⟨by k_mem, hIa2.symm⟩
      · exact ⟨by k_mem, hab⟩
      · exact ⟨by k_mem, hbn.symm⟩
      · exact ⟨by k_mem, hb9.symm⟩
      · exact ⟨by repeat (first | exact hq | apply List.Mem.tail), (hoa2 q hq).2.1⟩
    clear F12 N12
    walk_at "mine go"
    rename Fr _ _ _ _ => F14; rename News _ _ _ _ => N14
    dsimp only
    rw [List.push_toArray, List.push_toArray] at N14
    have N15 := news_mem (b := (I0, oI) :: (la, PySem.W.listOf (ys ++ [Value.str (T (textOf (f / 6) (1 + f % 6))) ta]).toArray (ky + 1)) :: (lb, PySem.W.listOf (zs ++ [v]).toArray (kz + 1)) :: (ln, PySem.W.listOf nv.toArray k0) :: (90, tabObj #[]) :: os2) N14 (fun q hq => by
      simp only [List.mem_cons] at hq
      rcases hq with rfl | rfl | rfl | rfl | rfl | hq
      · k_mem
      · k_mem
      · k_mem
      · k_mem
      · k_mem
      · repeat (first | exact hq | apply List.Mem.tail))
    refine ForEnd.mk ⟨ys ++ [Value.str (T (textOf (f / 6) (1 + f % 6))) ta], zs ++ [v], ky + 1, kz + 1, prs ++ [(textOf (f / 6) (1 + f % 6), worth g)], os2⟩ F14 N15 (by walk_at "mine pins") ⟨?_, ?_, ?_, ?_, hoa2⟩
    · show (prs ++ [_]).length = i + 1
      rw [List.length_append, hl]; rfl
    · show Txs _ ((prs ++ [_]).map _)
      rw [List.map_append]
      exact hy.snoc ta
    · show Vls w _ ((prs ++ [_]).map _) _
      rw [List.map_append]
      exact hz2
    · intro q hq
      rcases List.mem_append.mp hq with hq | hq
      · exact hok q hq
      · cases List.mem_singleton.mp hq
        exact ⟨name_ok _ _ (by omega) (by omega), worth_ok g hf2⟩
end PartZ2_
section PartZ1_
local macro_rules | `(tactic| walk_at "call ref") => `(tactic| refine Stop.mk ?_)
theorem anew_Z1 : True := by
  w_top off
  exact trivial
local macro_rules | `(tactic| walk_at "eval ListComp") => `(tactic| refine Stop.mk ?_)
local macro_rules | `(tactic| walk_at "pyIter ref") => `(tactic| refine Stop.mk ?_)
def absN (z : Int) : Nat := z.natAbs % 10 ^ 10
theorem abs_mod (z : Int) : (if z < 0 then -z else z).fmod (10 ^ Int.toNat 10) = ((absN z : Nat) : Int) := by
  have e : (if z < 0 then -z else z) = ((z.natAbs : Nat) : Int) := by split <;> omega
  have e2 : ((10 : Int) ^ Int.toNat 10) = ((10 ^ 10 : Nat) : Int) := by decide
  rw [e, e2, fmod_nat]; rfl
theorem nums_len (zs : List Int) : 4 ≤ ((zs.take 10).map absN ++ ([0, 7, 159, 33] : List Nat).drop zs.length).length := by
  rw [List.length_append, List.length_map, List.length_take, List.length_drop]
  simp only [List.length_cons, List.length_nil]; omega
theorem nums_le (zs : List Int) : ((zs.take 10).map absN ++ ([0, 7, 159, 33] : List Nat).drop zs.length).length ≤ 14 := by
  rw [List.length_append, List.length_map, List.length_take, List.length_drop]
  simp only [List.length_cons, List.length_nil]; omega
theorem nums_bound (zs : List Int) : ∀ n ∈ (zs.take 10).map absN ++ ([0, 7, 159, 33] : List Nat).drop zs.length, n < 10 ^ 10 := by
  intro n hn
  rcases List.mem_append.mp hn with h | h
  · obtain ⟨z, _, rfl⟩ := List.mem_map.mp h
    exact Nat.mod_lt _ (by decide)
  · have := List.mem_of_mem_drop h
    simp only [List.mem_cons, List.not_mem_nil, or_false] at this
    omega
structure NU where
  (ys : List Value)
local macro_rules | `(tactic| walk_at "execs cons") => `(tactic| ((with_reducible show wpAny _ _ (execs [_, _, _, _, _] _) _ _ _); refine Stop.mk ?_))
/-- the law's body, as the top asks for it -/
theorem law_body (w : World) {s₁ : Shared} {p₁ : Program} {loose₁ : List Str} {mean : ExcName → Option Value} {mg mb : Str → Option Value} {sc : Addr} {cw : ClaimW} {cl : Str → Option Addr} {mean' : ExcName → Option Value} {args : List WData}
    (X : (hd.heap_39 w.params).In s₁.heap) (T : Top p₁ loose₁ mean mg mb s₁.heap) (hT : TabsAt [(94, 90)] s₁.heap) (hK : noTabs (hd.heap_39 w.params) = true) (hgens : s₁.gens = #[])
    (hpre : ∃ vs sc', IntsAre vs sc' ∧ sc'.length ≤ 63 ∧ s₁.heap.IsList sc vs.toArray)
    (hend : ∀ s', OldK s₁.heap s'.heap → s'.os = s₁.os → AllBare s'.gens → GoodWG cw cl mean' args s₁ (.ok (.ret (.bool true))) s') :
    codeAny (model PySem.Challenge.rw_ew0021_01.row.prog w) callerA (.call (.ref 230) ⟨[.ref sc], []⟩) (GoodWG cw cl mean' args s₁) s₁ := by
  obtain ⟨vs, zs, hI, hz, hL⟩ := hpre
  refine law_intro (sc := sc) (Pre := fun h => h.IsList sc vs.toArray) [("script", .ref sc)] X T hT hK hgens (ghost_list hT hL) (by k_is) (by k_is) rfl (locs rfl) rfl rfl rfl (by decide) ?_ hend
  clear hL hT X T hend hgens s₁
  intro p loose gd A₀ h₀ L s B F N X Tp C h90 hG hL hL90
  have hl2 : LawFn w _ _ _ _ := ⟨_, _, _, _, _, _, _, _, _, _, _, by k_is⟩
  have hs2 := @stage2 w _ _ _ _ hl2 p loose mean mg mb gd A₀ h₀ L s
  clear hl2
  dsimp only [List.drop] at hs2
  walk_at "mine go"
  unfold Stop
  rename Fr _ _ _ _ => F; rename News _ _ _ _ => N
  refine ListComp_G F rfl (by decide) rfl (by decide) rfl ?_
  walk_at "mine go"
  unfold Stop
  rename Fr _ _ _ _ => F; rename News _ _ _ _ => N; rename IntsAre _ (List.take 10 zs) => hI10; rename List Value => ws; rename Addr => D0
  have hsz : ws.length ≤ 10 := by
    have := IntsAre.length hI10
    rw [List.length_take] at this; omega
  refine csrc_list (σ := NU) (s := ⟨_, _, _, _, _⟩) (its := ws.toArray) (fun _ => [(D0, W.listOf ws.toArray 0), (90, tabObj #[])]) (fun i c => c.ys.length = i ∧ Nums c.ys (((zs.take 10).take i).map absN)) (fun c => c.ys) (Same s) ⟨[]⟩ rfl (.inr ⟨_, rfl, ⟨_, rfl⟩, .head _, fun _ _ _ => .head _⟩) ?sz (fun _ _ _ h => h) Same.rfl F N ⟨rfl, Nums.nil⟩ ?adr ?turn ?done
  case sz => rw [List.size_toArray, sizeLine_eq]; omega
  case adr =>
    rintro i c ⟨h, _⟩
    exact ⟨h, fun p hp => List.mem_map_of_mem hp⟩
  case turn =>
    rintro i ⟨ys⟩ s₁ v I C₁ D oI oC m₂ E' hi ⟨hy, hs⟩ hg hoC hm₂ F₁ N₁ hlt hID hDC
    obtain ⟨h₁, k₁, rfl⟩ := hg.ex
    obtain ⟨z, t, hz1, rfl⟩ := ints_at hI10 (i := i) (v := v) (by simpa using hi)
    walk_at "mine go"
    rw [abs_mod]
    rename Fr _ _ _ _ => F₂; rename News _ _ _ _ => N₂
    refine CEnd.mk ⟨ys ++ [.int (absN z : Nat) _]⟩ Same.rfl F₂ N₂ (by intro q hq; exact hq) ⟨by show (ys ++ [_]).length = i + 1; rw [List.length_append, hy]; rfl, ?_⟩ rfl
    rw [List.take_add_one, hz1, List.map_append]
    exact hs.snoc _
  case done =>
    rintro D ⟨ys⟩ s₁ ⟨_, hs⟩ hg hlt h₁ F₁ N₁
    obtain ⟨h₂, k₂, rfl⟩ := hg.ex
    walk_at "mine go"
    rename Fr _ _ _ _ => F5; rename News _ _ _ _ => N5
    have hys : Nums ys ((zs.take 10).map absN) := by
      have hl := IntsAre.length hI10
      rw [List.size_toArray, hl, List.take_length] at hs
      exact hs
    have hyl : ys.length ≤ 10 := by rw [hys.1, List.length_map, List.length_take]; omega
    have hti := tail_ints k₂ (k₂ + 1) (k₂ + 1 + 1) (k₂ + 1 + 1 + 1) zs.length
    have htl := IntsAre.length hti
    rw [List.length_map, List.length_drop] at htl
    simp only [List.length_cons, List.length_nil] at htl
    refine add_lists (vs := ys) (ws := (slicePick #[Value.int 0 k₂, Value.int 7 (k₂ + 1), Value.int 159 (k₂ + 1 + 1), Value.int 33 (k₂ + 1 + 1 + 1)] (some (zs.length : Int)) none none).toList) F5 N5 ⟨_, (N5 _ (.tail _ (.tail _ (.head _)))).1, rfl, _, rfl⟩ ⟨_, (N5 _ (.head _)).1, rfl, _, rfl⟩ ?_ (by rw [sizeLine_eq]; omega)
    intro h6 F6 N6
    have hnums := hys.append (Nums.of_ints hti)
    have N7 := news_mem (b := [(_, { cls := .type "list", data := .seq (ys ++ (slicePick #[Value.int 0 k₂, Value.int 7 (k₂ + 1), Value.int 159 (k₂ + 1 + 1), Value.int 33 (k₂ + 1 + 1 + 1)] (some (zs.length : Int)) none none).toList).toArray }), (90, tabObj #[])]) N6 (fun q hq => by
      rcases List.mem_cons.mp hq with rfl | hq
      · exact .head _
      · cases List.mem_singleton.mp hq; exact .tail _ (.tail _ (.tail _ (.tail _ (.tail _ (.head _))))))
    clear N6 N5 F5
    generalize ys ++ (slicePick #[Value.int 0 k₂, Value.int 7 (k₂ + 1), Value.int 159 (k₂ + 1 + 1), Value.int 33 (k₂ + 1 + 1 + 1)] (some (zs.length : Int)) none none).toList = nv at *
    have hn4 : 4 ≤ ((zs.take 10).map absN ++ ([0, 7, 159, 33] : List Nat).drop zs.length).length := nums_len zs
    have hn14 : ((zs.take 10).map absN ++ ([0, 7, 159, 33] : List Nat).drop zs.length).length ≤ 14 := nums_le zs
    have hnb : ∀ n ∈ (zs.take 10).map absN ++ ([0, 7, 159, 33] : List Nat).drop zs.length, n < 10 ^ 10 := nums_bound zs
    generalize (zs.take 10).map absN ++ ([0, 7, 159, 33] : List Nat).drop zs.length = ns at *
    clear hti htl hyl hys
    walk_at "mine go"
    rename Fr _ _ _ _ => F; rename News _ _ _ _ => N
    unfold Stop
    rename Fr _ _ _ _ => F; rename News _ _ _ _ => N
    rename_i h7 x0 la x1 l2 lb x2 l3 dT x3 l4 x4 x5 x6
    obtain ⟨hS1, hS2, hS3⟩ := hg
    have N11 := news_mem (b := (la, PySem.W.listOf #[] 0) :: (lb, PySem.W.listOf #[] 0) :: (h7.objs.size, PySem.W.listOf nv.toArray 0) :: (90, tabObj #[]) :: []) N (fun q hq => by
      simp only [List.mem_cons, List.not_mem_nil, or_false] at hq
      rcases hq with rfl | rfl | rfl | rfl
      · k_mem
      · k_mem
      · k_mem
      · k_mem)
    exact hs2 B X Tp C h90 hG rfl (fr_of_pins F (by walk_at "mine pins")) N11 hnums hn4 hn14 hnb (Nat.ne_of_lt l3.1) (Nat.ne_of_gt l2.1) (Nat.ne_of_gt l3.2.1) (Nat.ne_of_gt l2.2) (Nat.ne_of_gt l3.2.2)
end PartZ1_
end Pre4_
end Pre3_
end Pre2_
end Mine
end Pre1_
section PartFIN_
open PySem PySem.W PyProof.Rows PySem.Calls PySem.Spec
set_option maxRecDepth 100000
set_option maxHeartbeats 8000000
namespace Mine
theorem anew_FIN : True := by
  w_top off
  exact trivial
theorem noTabs_K (w : World) : noTabs (hd.heap_39 w.params) = true := by kernel_rfl
theorem tabIn_ase (w : World) : tabIn (hd.heap_39 w.params) "array_string_escape" = some (94, 90) := by kernel_rfl
theorem ase_there : ((recsOf hd.view_39).find? (fun e : DefRec => e.name == ("array_string_escape" : Str))).isSome = true := by kernel_rfl
theorem foo : PySem.Challenge.rw_ew0021_01.Holds := hd (by
  k_fill
  intro w s₀ s₁ mg mb G Y fa o pm cd doc dV kV ho hd hcd hD hmg hg args vals as hpre hlay hrd hwl hlo
  have KX := kIn_of Y
  refine Ground.open G ?_
  intro T B D TE TW
  obtain ⟨d9, hd9⟩ := Option.isSome_iff_exists.mp (ase_there)
  have hT9 : TabsAt [(94, 90)] s₁.heap := List.forall_mem_cons.mpr ⟨tab_of T KX hd9 (tabIn_ase w), fun _ h => nomatch h⟩
  have e230 : fa = 230 := by
    have e1 := mg_of KX T.g (n := ("law" : Str)) (v := Value.ref 230) (by k_is)
    rw [show mg ("law" : Str) = some (Value.ref fa) from hmg] at e1
    cases e1; rfl
  subst e230
  wrow_args hpre hlay hrd hwl hlo
  all_goals (refine enter_call ?_)
  rename List Int => sc
  rename List Value => vs
  rename IntsAre _ _ => hI
  rename Heap.IsList _ _ _ => hL
  refine law_body w KX T hT9 (noTabs_K w) hg ⟨vs, sc, hI, by omega, hL⟩ ?_
  intro s' o1 o2 o3
  exact ⟨Or.inl ⟨_, .bool true, [], rfl, fun _ => rfl, .bool _, (by kernel_rfl), fun q => ⟨List.nodup_nil, fun a ha => nomatch ha⟩⟩, o1, o2, o3⟩)
end Mine
end PartFIN_
set_option maxRecDepth 100000 in
theorem PySem.Challenge.cw_ew0021_01_holds : PySem.Challenge.rw_ew0021_01.Holds := by
  exact Mine.foo
