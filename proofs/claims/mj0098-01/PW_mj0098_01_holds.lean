import PyProof.Rows.All
import Wide.All
import OpenK.AllK
import Wide.FinOn
import PySem.Challenge.RW_mj0098_01
set_option Elab.async false
section
open PySem PySem.W PyProof.Rows
set_option maxRecDepth 100000
set_option maxHeartbeats 8000000
namespace Mine
open_top hd for PySem.Challenge.rw_mj0098_01
end Mine
end
section
open PySem PySem.W PyProof.Rows PySem.Calls
namespace Mine
/-! texts as lists of numbers -/
def ofL (l : List Nat) : Str := ⟨l.toArray⟩
theorem ofL_len (l : List Nat) : (ofL l).length = l.length := by simp [ofL, Str.length]
theorem ofL_app (a b : List Nat) : ofL a ++ ofL b = ofL (a ++ b) := by
  refine str_eq_of_lists ?_
  show ((ofL a).cps ++ (ofL b).cps).toList = _
  simp [ofL]
theorem ofL_inj {a b : List Nat} (h : ofL a = ofL b) : a = b := by
  have := congrArg (fun x => x.cps.toList) h
  simpa [ofL] using this
theorem ofL_iff {a b : List Nat} : ofL a = ofL b ↔ a = b := ⟨ofL_inj, fun h => by rw [h]⟩
theorem ofL_beq (a b : List Nat) : (ofL a == ofL b) = (a == b) := by
  by_cases h : a = b
  · subst h; simp
  · have : ofL a ≠ ofL b := fun e => h (ofL_inj e)
    rw [beq_eq_false_iff_ne.mpr this, beq_eq_false_iff_ne.mpr h]
theorem ofL_toL (x : Str) : ofL x.cps.toList = x := str_eq_of_lists (by simp [ofL])

theorem sliceIdx_beyond2 (len : Nat) {i j : Int} (h : (len : Int) ≤ j) : Builtin.Str.strSliceIndices (some i) (some j) 1 len = Builtin.Str.strSliceIndices (some i) (some (len : Int)) 1 len := by
  have h0 : ¬ j < 0 := by omega
  have h1 : ¬ ((len : Int) < 0) := by omega
  have h2 : (1 : Int) > 0 := by decide
  simp only [Builtin.Str.strSliceIndices, h0, h1, h2, if_false, if_true, Int.min_eq_right h, Int.min_self]
theorem slice_at (l : List Nat) {k j : Int} (h0 : 0 ≤ k) (h1 : k ≤ l.length) (h2 : k ≤ j) :
    Txt.slice (ofL l) (some k) (some j) = ofL ((l.drop k.toNat).take (j - k).toNat) := by
  by_cases hj : j ≤ l.length
  · have := slice_closes (x := ofL l) (i := k) (j := j) ⟨h0, h2, by simpa [ofL] using hj⟩
    have e := beq_iff_eq.mp this
    rw [e]; simp [ofL]
  · have e1 : Txt.slice (ofL l) (some k) (some j) = Txt.slice (ofL l) (some k) (some ((ofL l).length : Int)) := by
      unfold Txt.slice
      rw [sliceIdx_beyond2 _ (by rw [ofL_len]; omega)]
    rw [e1]
    have := slice_closes (x := ofL l) (i := k) (j := ((ofL l).length : Int)) ⟨h0, by rw [ofL_len]; exact h1, by simp [ofL, Str.length]⟩
    have e := beq_iff_eq.mp this
    rw [e, ofL_len]
    have e2 : ((ofL l).cps.toList.drop k.toNat).take ((l.length : Int) - k).toNat = (l.drop k.toNat).take (j - k).toNat := by
      have : (ofL l).cps.toList = l := by simp [ofL]
      rw [this, List.take_of_length_le (by simp; omega), List.take_of_length_le (by simp; omega)]
    rw [e2]; rfl
theorem item_at (l : List Nat) {k : Int} (h0 : 0 ≤ k) (h1 : k < l.length) : Txt.item (ofL l) k = ofL [l.getD k.toNat 0] := by
  unfold Txt.item Txt.charAt
  have hk : k.toNat < l.length := by omega
  have : (seqIndex? k (ofL l).length) = some k.toNat := by
    rw [ofL_len]
    unfold seqIndex?
    simp only []
    have e1 : ¬ k < 0 := by omega
    simp [e1]
    omega
  rw [this]
  simp [ofL, hk]
/-! one sign in the place of two neighbours, from the left -/
def put (a b c : Nat) : List Nat → List Nat
  | [] => []
  | [x] => [x]
  | x :: y :: r => if x = a ∧ y = b then c :: put a b c r else x :: put a b c (y :: r)
def cnt (a b : Nat) : List Nat → Nat
  | [] => 0
  | [_] => 0
  | x :: y :: r => if x = a ∧ y = b then cnt a b r + 1 else cnt a b (y :: r)
theorem put_len (a b c : Nat) (l : List Nat) : (put a b c l).length + cnt a b l = l.length := by
  fun_induction put a b c l with
  | case1 => simp [cnt]
  | case2 => simp [cnt]
  | case3 x y r h ih => simp only [cnt, if_pos h, List.length_cons]; omega
  | case4 x y r h ih => simp only [cnt, if_neg h, List.length_cons] at *; omega
theorem put_hit {a b c : Nat} {l : List Nat} {k : Nat} (h : (l.drop k).take 2 = [a, b]) : put a b c (l.drop k) = c :: put a b c (l.drop (k + 2)) ∧ k + 2 ≤ l.length := by
  match e : l.drop k with
  | [] => rw [e] at h; simp at h
  | [x] => rw [e] at h; simp at h
  | x :: y :: r =>
    rw [e] at h
    simp only [List.take_succ_cons, List.take_zero, List.cons.injEq, and_true] at h
    have e2 : l.drop (k + 2) = r := by
      have := congrArg (List.drop 2) e
      rw [List.drop_drop] at this
      simpa using this
    have e3 := congrArg List.length e
    simp only [List.length_drop, List.length_cons] at e3
    rw [e2, put, if_pos h]
    exact ⟨rfl, by omega⟩
theorem put_miss {a b c : Nat} {l : List Nat} {k : Nat} (hk : k < l.length) (h : (l.drop k).take 2 ≠ [a, b]) : put a b c (l.drop k) = l.getD k 0 :: put a b c (l.drop (k + 1)) := by
  have e0 : l.drop k = l[k] :: l.drop (k + 1) := List.drop_eq_getElem_cons hk
  have e1 : l.getD k 0 = l[k] := by simp [hk]
  rw [e1, e0]
  match e : l.drop (k + 1) with
  | [] => simp [put]
  | y :: r =>
    rw [e0, e] at h
    simp only [List.take_succ_cons, List.take_zero] at h
    have hn : ¬ (l[k] = a ∧ y = b) := fun q => h (by rw [q.1, q.2])
    rw [put, if_neg hn]
end Mine
namespace Mine
open PySem PySem.W PyProof.Rows
def addNew (met : List (List Nat)) (p : List Nat) : List (List Nat) := if p ∈ met then met else met ++ [p]
def nbTo (text : List Nat) : Nat → List (List Nat)
  | 0 => []
  | i + 1 => addNew (nbTo text i) ((text.drop i).take 2)
def nbrs (text : List Nat) : List (List Nat) := nbTo text (text.length - 1)
theorem addNew_len (met : List (List Nat)) (p : List Nat) : (addNew met p).length ≤ met.length + 1 := by
  unfold addNew; split <;> simp
theorem nbTo_len (text : List Nat) : ∀ i, (nbTo text i).length ≤ i
  | 0 => Nat.le_refl _
  | i + 1 => by
    have := nbTo_len text i
    have h2 := addNew_len (nbTo text i) ((text.drop i).take 2)
    show (addNew _ _).length ≤ _
    omega
/-- values that are texts -/
def TV (vs : List Value) (ps : List (List Nat)) : Prop := StrsAre vs (ps.map ofL)
theorem TV.snoc {vs : List Value} {ps : List (List Nat)} {p : List Nat} {t : Tok} (h : TV vs ps) : TV (vs ++ [.str (ofL p) t]) (ps ++ [p]) := by
  unfold TV at *
  rw [List.map_append]
  exact h.append' (.cons _ _ .nil)
theorem TV.len {vs : List Value} {ps : List (List Nat)} (h : TV vs ps) : vs.length = ps.length := by
  unfold TV at h
  generalize e : ps.map ofL = xs at h
  have : ∀ {vs : List Value} {xs : List Str}, StrsAre vs xs → vs.length = xs.length := by
    intro vs xs h
    induction h with
    | nil => rfl
    | cons _ _ _ ih => simp [ih]
  rw [this h, ← e]; simp
end Mine
end
section
open PySem PySem.W PyProof.Rows PySem.Calls
set_option maxRecDepth 100000
set_option maxHeartbeats 8000000
namespace Mine

/-- what every frame of the run knows of the top -/
structure Cx (w : World) (h₀ : Heap) : Prop where
  X : (hd.heap_39 w.params).In h₀
  T : ∃ mg mb, TopRead hd.view_39 (looseW hd.view_39 []) mg mb h₀
theorem Cx.keeps {w : World} {h h' : Heap} (C : Cx w h) (hk : ∀ b o, h.get? b = some o → h'.get? b = some o) : Cx w h' :=
  ⟨C.X.keeps hk, let ⟨mg, mb, T⟩ := C.T; ⟨mg, mb, T.keeps hk⟩⟩
theorem Cx.nolimit {w : World} {h : Heap} (C : Cx w h) : h.NoLimit := let ⟨_, _, T⟩ := C.T; T.nolimit

def lv (d : Nat) : Around := { handled := none, depth := d, frames := none, guards := none, units := d }
structure ALe (A : Around) (d : Nat) : Prop where
  handled : A.handled = none
  depth : A.depth ≤ d
  units : A.units ≤ d
theorem ALe.in {Γ : Ctx} {A : Around} {d : Nat} (h : ALe A d) (hΓ : Γ.In A) : Γ.In (lv d) :=
  ⟨hΓ.1.trans h.handled, Nat.le_trans hΓ.2.1 h.depth, (fun _ e => nomatch e), (fun _ e => nomatch e), Nat.le_trans hΓ.2.2.2.2 h.units⟩
theorem ALe.below {Γ : Ctx} {A : Around} {d : Nat} (h : ALe A d) (hΓ : Γ.Below A) : Γ.Below (lv d) :=
  ⟨hΓ.1.trans h.handled, Nat.le_trans hΓ.2.1 h.depth, (fun _ e => nomatch e), (fun _ e => nomatch e), Nat.le_trans hΓ.2.2.2.2 h.units⟩
theorem wpAny_lv {α : Type} {M : Model} {A : Around} {d : Nat} (hA : ALe A d) {t : Sem α} {Q : α → Shared → Prop} {E : Value → Shared → Prop} {s : Shared}
    (h : wpAny M (lv d) t Q E s) : wpAny M A t Q E s := fun Γ p hΓ => h Γ p (hA.in hΓ)
theorem codeAny_lv {M : Model} {A : Around} {d : Nat} (hA : ALe A d) {c : Code} {R : Result → Shared → Prop} {s : Shared}
    (h : codeAny M (lv d) c R s) : codeAny M A c R s := fun Γ p e hΓ => h Γ p e (hA.below hΓ)

theorem ALe.lvDeeper {d : Nat} {env : Env} : ALe ((lv d).deeper env) (d + 3) := ⟨rfl, by show d + 1 ≤ d + 3; omega, by show d + 3 ≤ d + 3; omega⟩
theorem ALe.mono {A : Around} {d e : Nat} (h : ALe A d) (he : d ≤ e) : ALe A e := ⟨h.handled, Nat.le_trans h.depth he, Nat.le_trans h.units he⟩

/-- a call of one of the text's defs, seen from the caller: no exception leaves it -/
theorem callM {prog : Program} {w : World} {A : Around} {s : Shared} {h₀ : Heap} {L : Addr} {m : Str → Option Value} {news : List (Addr × Obj)}
    {R : Result → Shared → Prop} {name qual : Str} {params : Arguments} {body : List Stmt} {scope : Scope} {dV kV doc pm cdv ct oc : Value} {an od : Option Addr} {osl : Array (Option Value)} {f : Addr} {args : Args} {binds : List (Str × Value)}
    (C : Cx w h₀) (F : Fr h₀ L s.heap m) (N : News h₀ L s.heap news)
    (ho : (hd.heap_39 w.params).lookup f = some ⟨oc, od, .func (fnOf name qual params body scope dV kV doc pm an cdv ct), osl⟩) (hcd : codeIn (hd.heap_39 w.params) cdv qual = true) (hroom : A.depth < recursionLimit)
    (hbind : BindsTo s (fnOf name qual params body scope dV kV doc pm an cdv ct) args binds) (hloc : ∀ y ∈ binds, scope.names.lookup y.1 = some .local)
    (h : ∀ g L' h₁, Cx w g → Fr g L' h₁ (fun y => binds.reverse.lookup y) → News g L' h₁ news → (∀ p ∈ news, p.1 < L') →
      wpAny (model prog w) (A.deeper (envOf qual scope L' f cdv)) (execs body (envOf qual scope L' f cdv))
        (fun fl s' => LeaveK h₀ L m g R (match fl with | .ret v => v | _ => .none) s')
        (fun _ _ => False)
        { s with heap := h₁, toks := s.toks + binds.length })
    (hco : scope.isCoroutine = false := by rfl) (hgen : scope.isGenerator = false := by rfl) (hk : scope.kind = .function := by rfl)
    (hcell : ∀ x ∈ scope.names, x.2 ≠ .cell := by decide) : codeAny (model prog w) A (.call (.ref f) args) R s := by
  have X := C.X.keeps F.keep
  refine codeAny_call_def (fd := fnOf name qual params body scope dV kV doc pm an cdv ct) (body := body) (binds := binds) hroom (X _ _ ho) rfl (C.nolimit.keeps F.keep) (codeRec_of X hcd) rfl hbind hcell hloc (fun h₁ hns hk₁ => ?_) hco hgen hk
  have nm : ∀ b o, h₀.get? b = some o → b ∉ news.map (·.1) := fun b o e q => by
    obtain ⟨p, hp, rfl⟩ := List.mem_map.mp q
    rw [(N p hp).2.2] at e; cases e
  have st : h₀.StaysIn (hideAll s.heap (news.map (·.1))) := fun b o e => hideAll_get _ (F.keep b o e) (nm b o e)
  obtain ⟨oL, es, ep, hL, hLd, hLk, hLf⟩ := F.ns
  have nL : L ∉ news.map (·.1) := fun q => by
    obtain ⟨p, hp, e⟩ := List.mem_map.mp q
    exact (N p hp).2.1 e
  have hLg := hideAll_get (news.map (·.1)) hL nL
  refine wpAny_mono (h _ s.heap.objs.size h₁ (C.keeps st) ⟨hns, fun b o e => hk₁ b o (of_hideAll _ e), Nat.le_of_eq (hideAll_size _ _)⟩
    (fun p hp => ⟨hk₁ _ _ (N p hp).1, Nat.ne_of_lt (Heap.lt_size (N p hp).1), hideAll_none _ (List.mem_map_of_mem hp)⟩) (fun p hp => Heap.lt_size (N p hp).1)) (fun fl s' hl => ?_) fun _ _ y => y.elim
  obtain ⟨L', m', news', F', N', k⟩ := hl
  refine k ⟨⟨oL, es, ep, F'.keep L oL hLg, hLd, hLk, hLf⟩, fun b o e => F'.keep b o (st b o e), F.above⟩ fun p hp => ⟨(N' p hp).1, fun q => ?_, ?_⟩
  · have := (N' p hp).2.2; rw [q, hLg] at this; cases this
  · cases q : h₀.get? p.1 with
    | none => rfl
    | some o => have := (N' p hp).2.2; rw [st _ _ q] at this; cases this
end Mine
namespace Mine
open PySem PySem.W PyProof.Rows
def Knows (m : Str → Option Value) : List (Str × Value) → Prop
  | [] => True
  | p :: r => m p.1 = some p.2 ∧ Knows m r
def bl (m : Str → Option Value) : List (Str × Value) → Str → Option Value
  | [], y => m y
  | p :: r, y => if y = p.1 then some p.2 else bl m r y
theorem bl_eq {m : Str → Option Value} : ∀ {ps : List (Str × Value)}, Knows m ps → bl m ps = m
  | [], _ => rfl
  | p :: r, h => by
    funext y
    have ih := bl_eq h.2
    show (if y = p.1 then some p.2 else bl m r y) = m y
    rw [ih]
    by_cases e : y = p.1
    · rw [if_pos e, e]; exact h.1.symm
    · rw [if_neg e]
theorem frKnows {h₀ h : Heap} {L : Addr} {m : Str → Option Value} {ps : List (Str × Value)} (F : Fr h₀ L h m) (hk : Knows m ps) : Fr h₀ L h (bl m ps) := by
  rw [bl_eq hk]; exact F
theorem newsMid {h₀ h : Heap} {L : Addr} {own r : List (Addr × Obj)} {x : Addr × Obj} (N : News h₀ L h (own ++ x :: r)) : News h₀ L h (x :: (own ++ r)) :=
  KStt.news_of N fun p hp => by
    simp only [List.mem_cons, List.mem_append] at hp ⊢
    rcases hp with h | h | h
    · exact .inr (.inl h)
    · exact .inl h
    · exact .inr (.inr h)
theorem newsMid' {h₀ h : Heap} {L : Addr} {own r : List (Addr × Obj)} {x : Addr × Obj} (N : News h₀ L h (x :: (own ++ r))) : News h₀ L h (own ++ x :: r) :=
  KStt.news_of N fun p hp => by
    simp only [List.mem_cons, List.mem_append] at hp ⊢
    rcases hp with h | h | h
    · exact .inr (.inl h)
    · exact .inl h
    · exact .inr (.inr h)
theorem offApp {own r : List (Addr × Obj)} {I l : Addr} (ho : ∀ p ∈ own, p.1 = I) (hI : l ≠ I) (hr : ∀ p ∈ r, p.1 ≠ l) : OwnOff (own ++ r) [l] := by
  intro p hp b hb
  rw [List.mem_singleton.mp hb]
  rcases List.mem_append.mp hp with h | h
  · rw [ho p h]; exact fun e => hI e.symm
  · exact hr p h
end Mine
end
section
open PySem PySem.W PyProof.Rows PySem.Calls
set_option maxRecDepth 100000
set_option maxHeartbeats 8000000
namespace Mine
section
variable {prog : Program} {w : World} {A : Around} {E : Value → Shared → Prop} {s : Shared} {env : Env} {h₀ : Heap} {x : Str} {body : List Stmt} {Q : Flow → Shared → Prop}

/-- the end of a turn: what the next turn (or the end) is handed -/
def StepM (h₀ : Heap) (L I : Addr) (own : List (Addr × Obj)) (J : (Str → Option Value) → List (Addr × Obj) → Prop) (s : Shared) (Q : Flow → Shared → Prop) (f : Flow) (s₂ : Shared) : Prop :=
  match f with
  | .ret v => Q (.ret v) s₂
  | .brk => Q .next s₂
  | _ => ∃ h' tk m' news₂, s₂ = { s with heap := h', toks := tk } ∧ Fr h₀ L h' m' ∧ News h₀ L h' (own ++ news₂) ∧ (∀ p ∈ news₂, p.1 ≠ I) ∧ J m' news₂

theorem loopM {I : Addr} {fp : List Addr} {n : Nat} {P : Nat → Value → Prop} {St : Nat → Heap → Prop} {m₀ : Str → Option Value} {news : List (Addr × Obj)} (J : Nat → (Str → Option Value) → List (Addr × Obj) → Prop)
    (W : Walks prog w A I fp [I] n P St) (hLf : env.locals ∉ fp) (hI0 : h₀.get? I = none) (hnw : ∀ p ∈ news, p.1 ≠ I) (hst : St 0 s.heap) (F : Fr h₀ env.locals s.heap m₀) (N : News h₀ env.locals s.heap news) (hJ : J 0 m₀ news)
    (turn : ∀ i v m₁ news₁ h tk own, i < n → P i v → J i m₁ news₁ → (∀ p ∈ own, p.1 ∈ fp) → (∀ p ∈ news₁, p.1 ≠ I) →
      Fr h₀ env.locals h (fun y => if y = x then some v else m₁ y) → News h₀ env.locals h (own ++ news₁) →
      wpAny (model prog w) A (execs body env) (StepM h₀ env.locals I own (J (i + 1)) s Q) E { s with heap := h, toks := tk })
    (done : ∀ m₁ news₁ h tk, J n m₁ news₁ → (∀ p ∈ news₁, p.1 ≠ I) → Fr h₀ env.locals h m₁ → News h₀ env.locals h news₁ → Q .next { s with heap := h, toks := tk }) :
    LoopAtV prog w A h₀ env x body Q E (.ref I) s := by
  refine ⟨I, fp, [I], n, P, St, m₀, news, J, rfl, W, hLf, ?_, ?_, hst, F, N, hJ, ?_, ?_⟩
  · intro b hb; rw [List.mem_singleton.mp hb]; exact hI0
  · intro p hp hq; exact hnw p hp (List.mem_singleton.mp hq)
  · rintro i v m₁ news₁ s₁ own ⟨hh', tk', rfl⟩ hin hP hJ hoff hown _ _ _ F₁ N₁
    refine wpAny_mono (turn i v m₁ news₁ hh' tk' own hin hP hJ hown (fun p hp e => hoff p hp (by rw [e]; exact List.mem_singleton.mpr rfl)) F₁ N₁) (fun f s₂ p => ?_) fun _ _ e => e
    have fin : (∃ h' tk m' news₂, s₂ = { s with heap := h', toks := tk } ∧ Fr h₀ env.locals h' m' ∧ News h₀ env.locals h' (own ++ news₂) ∧ (∀ p ∈ news₂, p.1 ≠ I) ∧ J (i + 1) m' news₂) → LoopStepU h₀ env.locals [I] own (J (i + 1)) { s with heap := hh', toks := tk' } .next s₂ := by
      rintro ⟨h', tk, m', news₂, e, F', N', ho, hj⟩
      exact ⟨rfl, h', tk, m', news₂, e, F', N', fun p hp hq => ho p hp (List.mem_singleton.mp hq), hj⟩
    cases f with
    | ret v => exact .ret p
    | brk => exact .brk p
    | next => exact .next (fin p)
    | cont => exact .cont (fin p)
  · rintro h' tk m' news' F' N' ho hJ
    exact done m' news' h' tk hJ (fun p hp e => ho p hp (by rw [e]; exact List.mem_singleton.mpr rfl)) F' N'

theorem iter_rangeM {r : Addr} {a₀ b₀ : Int} {t₀ u₀ v₀ : Tok} {n : Nat} {m₀ : Str → Option Value} {news : List (Addr × Obj)} (J : Nat → (Str → Option Value) → List (Addr × Obj) → Prop)
    (hh : A.handled = none) (hr : IsRange s.heap r a₀ b₀ 1 t₀ u₀ v₀) (hsmall : Builtin.Range.small a₀ b₀ 1 = true) (hn : Builtin.Range.rangeSize a₀ b₀ 1 = (n : Int)) (F : Fr h₀ env.locals s.heap m₀) (N : News h₀ env.locals s.heap news)
    (hJ : J 0 m₀ news)
    (turn : ∀ i t m₁ news₁ h tk own, i < n → J i m₁ news₁ → (∀ p ∈ own, p.1 = s.heap.objs.size) → (∀ p ∈ news₁, p.1 ≠ s.heap.objs.size) →
      Fr h₀ env.locals h (fun y => if y = x then some (.int (a₀ + (i : Int)) t) else m₁ y) → News h₀ env.locals h (own ++ news₁) →
      wpAny (model prog w) A (execs body env) (StepM h₀ env.locals s.heap.objs.size own (J (i + 1)) s Q) E { s with heap := h, toks := tk })
    (done : ∀ m₁ news₁ h tk, J n m₁ news₁ → (∀ p ∈ news₁, p.1 ≠ s.heap.objs.size) → Fr h₀ env.locals h m₁ → News h₀ env.locals h news₁ → Q .next { s with heap := h, toks := tk }) :
    wpAny (model prog w) A (pyIter (.ref r)) (fun it s₂ => LoopAtV prog w A h₀ env x body Q E it s₂) E s := by
  refine wpAny_pyIter_range hr hsmall ?_
  have W : Walks prog w A s.heap.objs.size [s.heap.objs.size] [s.heap.objs.size] n (fun i v => i < n ∧ ∃ t, v = .int (a₀ + i * 1) t)
      (fun i h => IsRangeIter h s.heap.objs.size (a₀ + (i : Nat) * 1) ((n : Int) - (i : Nat)) 1) := (Walks.range hh _ a₀ 1 n).bound
  refine loopM J W ?_ (next_is_new F) ?_ (by show IsRangeIter _ _ _ _ _; rw [hn]; simpa using Heap.get?_push_size _ rfl) (F.push _) (fun p hp => ⟨Heap.get?_push_of_some _ (N p hp).1, (N p hp).2⟩) hJ ?_ ?_
  · intro hm
    exact absurd F.ns.lt ((List.mem_singleton.mp hm) ▸ Nat.lt_irrefl _)
  · intro p hp hI
    exact absurd (Heap.lt_size (N p hp).1) (hI ▸ Nat.lt_irrefl _)
  · rintro i v m₁ news₁ h tk own hi ⟨_, t, rfl⟩ hJ ho hne F₁ N₁
    rw [Int.mul_one] at F₁
    exact turn i t m₁ news₁ h tk own hi hJ (fun p hp => List.mem_singleton.mp (ho p hp)) hne F₁ N₁
  · exact done

theorem iter_listM {l : Addr} {vs : List Value} {m₀ : Str → Option Value} {news : List (Addr × Obj)} (J : Nat → (Str → Option Value) → List (Addr × Obj) → Prop)
    (hh : A.handled = none) (hl : s.heap.IsList l vs.toArray) (hlL : l ≠ env.locals) (F : Fr h₀ env.locals s.heap m₀) (N : News h₀ env.locals s.heap news)
    (hJ : J 0 m₀ news)
    (turn : ∀ i v m₁ news₁ h tk own, vs[i]? = some v → J i m₁ news₁ → (∀ p ∈ own, p.1 = s.heap.objs.size ∨ p.1 = l) → (∀ p ∈ news₁, p.1 ≠ s.heap.objs.size) →
      Fr h₀ env.locals h (fun y => if y = x then some v else m₁ y) → News h₀ env.locals h (own ++ news₁) →
      wpAny (model prog w) A (execs body env) (StepM h₀ env.locals s.heap.objs.size own (J (i + 1)) s Q) E { s with heap := h, toks := tk })
    (done : ∀ m₁ news₁ h tk, J vs.length m₁ news₁ → (∀ p ∈ news₁, p.1 ≠ s.heap.objs.size) → Fr h₀ env.locals h m₁ → News h₀ env.locals h news₁ → Q .next { s with heap := h, toks := tk }) :
    wpAny (model prog w) A (pyIter (.ref l)) (fun it s₂ => LoopAtV prog w A h₀ env x body Q E it s₂) E s := by
  obtain ⟨ol, hol, _⟩ := id hl
  have hlt : l < s.heap.objs.size := Heap.lt_size hol
  have hne : l ≠ s.heap.objs.size := Nat.ne_of_lt hlt
  refine wpAny_pyIter_list hl ?_
  have W := Walks.list (prog := prog) (w := w) hh s.heap.objs.size l hne vs.toArray
  have hlen : vs.toArray.size = vs.length := by simp
  rw [hlen] at W
  refine loopM J W ?_ (next_is_new F) ?_ ⟨⟨_, Heap.get?_push_size _ rfl, rfl, rfl⟩, hl.at fun o e => Heap.get?_push_of_some _ e⟩ (F.push _) (fun p hp => ⟨Heap.get?_push_of_some _ (N p hp).1, (N p hp).2⟩) hJ ?_ ?_
  · intro hm
    rcases List.mem_cons.mp hm with e | hm
    · exact absurd F.ns.lt (e ▸ Nat.lt_irrefl _)
    · exact hlL (List.mem_singleton.mp hm).symm
  · intro p hp hI
    exact absurd (Heap.lt_size (N p hp).1) (hI ▸ Nat.lt_irrefl _)
  · rintro i v m₁ news₁ h tk own hi hP hJ ho hne F₁ N₁
    refine turn i v m₁ news₁ h tk own (by simpa using hP) hJ (fun p hp => ?_) hne F₁ N₁
    rcases List.mem_cons.mp (ho p hp) with e | e
    · exact .inl e
    · exact .inr (List.mem_singleton.mp e)
  · exact done
end
end Mine
end
section
open PySem PySem.W PyProof.Rows PySem.Calls
set_option maxRecDepth 100000
set_option maxHeartbeats 8000000
namespace Mine
theorem bind_rest {M : Model} {A : Around} {E : Value → Shared → Prop} {s : Shared} {Q : List (Str × Value) → Shared → Prop} {name qual : Str} {body : List Stmt} {scope : Scope} {kV doc pm cdv ct : Value} {an : Option Addr} {a1 a2 : PySem.Arg} {v : Value} {vs : List Value}
    (hz : vs.length ≤ 1000000) (h : Q [(a1.arg, v), (a2.arg, .ref s.heap.objs.size)] { s with heap := s.heap.push { cls := .type "tuple", data := .seq vs.toArray } }) :
    wpAny M A (bindArgs (fnOf name qual ⟨[], [a1], some a2, [], [], none, []⟩ body scope .none kV doc pm an cdv ct) ⟨v :: vs, []⟩) Q E s := by
  unfold bindArgs
  simp only [List.map_nil, List.map_cons, List.nil_append, List.append_nil, List.length_cons, List.length_nil, List.forIn_nil, pure_bind]
  refine wpAny_bind (wpAny_of_eq (a := none) rfl ?_)
  simp
  refine wpAny_map ?_
  exact wpAny_newObj_type h (by show vs.toArray.size ≤ sizeLine; rw [List.size_toArray, sizeLine_eq]; omega)

/-- a call of a def with one parameter and a rest -/
theorem callMrest {prog : Program} {w : World} {A : Around} {s : Shared} {h₀ : Heap} {L : Addr} {m : Str → Option Value} {news : List (Addr × Obj)}
    {R : Result → Shared → Prop} {name qual : Str} {a1 a2 : PySem.Arg} {body : List Stmt} {scope : Scope} {kV doc pm cdv ct oc : Value} {an od : Option Addr} {osl : Array (Option Value)} {f : Addr} {v : Value} {vs : List Value}
    (C : Cx w h₀) (F : Fr h₀ L s.heap m) (N : News h₀ L s.heap news) (hz : vs.length ≤ 1000000)
    (ho : (hd.heap_39 w.params).lookup f = some ⟨oc, od, .func (fnOf name qual ⟨[], [a1], some a2, [], [], none, []⟩ body scope .none kV doc pm an cdv ct), osl⟩) (hcd : codeIn (hd.heap_39 w.params) cdv qual = true) (hroom : A.depth < recursionLimit)
    (hloc : ∀ D : Value, ∀ y ∈ [(a1.arg, v), (a2.arg, D)], scope.names.lookup y.1 = some .local)
    (h : ∀ D g L' h₁, Cx w g → Fr g L' h₁ (fun y => [(a1.arg, v), (a2.arg, .ref D)].reverse.lookup y) → News g L' h₁ ((D, ({ cls := .type "tuple", data := .seq vs.toArray } : Obj)) :: news) → (∀ p ∈ news, p.1 < D) →
      wpAny (model prog w) (A.deeper (envOf qual scope L' f cdv)) (execs body (envOf qual scope L' f cdv))
        (fun fl s' => LeaveK h₀ L m g R (match fl with | .ret v => v | _ => .none) s')
        (fun _ _ => False)
        { s with heap := h₁, toks := s.toks + 2 })
    (hco : scope.isCoroutine = false := by rfl) (hgen : scope.isGenerator = false := by rfl) (hk : scope.kind = .function := by rfl)
    (hcell : ∀ x ∈ scope.names, x.2 ≠ .cell := by decide) : codeAny (model prog w) A (.call (.ref f) ⟨v :: vs, []⟩) R s := by
  have X := C.X.keeps F.keep
  refine codeAny_call_function (fd := fnOf name qual ⟨[], [a1], some a2, [], [], none, []⟩ body scope .none kV doc pm an cdv ct) (body := body) hroom (X _ _ ho) rfl hco hgen rfl (codeRec_of X hcd) ?_
  refine bind_rest hz ?_
  have F1 := F.push ({ cls := .type "tuple", data := .seq vs.toArray } : Obj)
  have N1 := News.push F N ({ cls := .type "tuple", data := .seq vs.toArray } : Obj)
  have l : ∀ p ∈ news, p.1 < s.heap.objs.size := fun p hp => Heap.lt_size (N p hp).1
  generalize hD : s.heap.objs.size = D at N1 l
  generalize hH : s.heap.push ({ cls := .type "tuple", data := .seq vs.toArray } : Obj) = H at F1 N1
  refine wpAny_newFunctionEnv (s := { s with heap := H }) hcell (hloc _) (fun h₁ hns hsb => ⟨(C.nolimit.keeps F1.keep).fresh _ hsb, codeAny_func ?_⟩) hk
  have hk₁ : ∀ b o, H.get? b = some o → h₁.get? b = some o := fun b o e => hsb.extBut b o (Nat.ne_of_lt (Heap.lt_size e)) (Heap.get?_push_of_some _ e)
  show wpAny (model prog w) (A.deeper (envOf qual scope H.objs.size f cdv)) (execs body (envOf qual scope H.objs.size f cdv)) _ _ _
  have nm : ∀ b o, h₀.get? b = some o → b ∉ (((D, ({ cls := .type "tuple", data := .seq vs.toArray } : Obj)) :: news).map (·.1)) := fun b o e q => by
    obtain ⟨p, hp, rfl⟩ := List.mem_map.mp q
    rw [(N1 p hp).2.2] at e; cases e
  generalize hnn : ((D, ({ cls := .type "tuple", data := .seq vs.toArray } : Obj)) :: news) = nn at nm N1
  have st : h₀.StaysIn (hideAll H (nn.map (·.1))) := fun b o e => hideAll_get _ (F1.keep b o e) (nm b o e)
  obtain ⟨oL, es, ep, hL, hLd, hLk, hLf⟩ := F1.ns
  have nL : L ∉ nn.map (·.1) := fun q => by
    obtain ⟨p, hp, e⟩ := List.mem_map.mp q
    exact (N1 p hp).2.1 e
  have hLg := hideAll_get (nn.map (·.1)) hL nL
  subst hnn
  refine wpAny_mono (h D _ H.objs.size h₁ (C.keeps st) ⟨hns, fun b o e => hk₁ b o (of_hideAll _ e), Nat.le_of_eq (hideAll_size _ _)⟩
    (fun p hp => ⟨hk₁ _ _ (N1 p hp).1, Nat.ne_of_lt (Heap.lt_size (N1 p hp).1), hideAll_none _ (List.mem_map_of_mem hp)⟩) l) (fun fl s' hl => ?_) fun _ _ y => y.elim
  obtain ⟨L', m', news', F', N', k⟩ := hl
  refine k ⟨⟨oL, es, ep, F'.keep L oL hLg, hLd, hLk, hLf⟩, fun b o e => F'.keep b o (st b o e), F.above⟩ fun p hp => ⟨(N' p hp).1, fun q => ?_, ?_⟩
  · have := (N' p hp).2.2; rw [q, hLg] at this; cases this
  · cases q : h₀.get? p.1 with
    | none => rfl
    | some o => have := (N' p hp).2.2; rw [st _ _ q] at this; cases this
end Mine
end
section
open PySem PySem.W PyProof.Rows PySem.Calls
set_option maxRecDepth 100000
set_option maxHeartbeats 2000000
namespace Mine
section
variable {prog : Program} {w : World} {A : Around} {E : Value → Shared → Prop} {s : Shared} {h₀ : Heap} {L : Addr} {m : Str → Option Value} {news : List (Addr × Obj)}
theorem strsAre_vals : ∀ l : List (Str × Tok), StrsAre (strValues l) (l.map (·.1))
  | [] => .nil
  | p :: r => .cons p.1 p.2 (strsAre_vals r)
theorem split_M {x y : Str} {t u : Tok} {Q : Value → Shared → Prop} (F : Fr h₀ L s.heap m) (N : News h₀ L s.heap news) (hy : 0 < y.length) (hx : x.length ≤ 10000)
    (h : ∀ D vs h' k, StrsAre vs (Txt.split x y) → Fr h₀ L h' m → News h₀ L h' ((D, W.listOf vs.toArray 0) :: news) → (∀ p ∈ news, p.1 < D) → Q (.ref D) { s with heap := h', toks := k }) :
    wpAny (model prog w) A (call (.builtin "str.split") [.str x t, .str y u]) Q E s := by
  refine splitN1 F N (by simp; omega) (fun l h' k e F' N' => ?_) (by rw [sizeLine_eq]; omega)
  exact h _ (strValues l) h' k (e ▸ strsAre_vals l) F' N' fun p hp => Heap.lt_size (N p hp).1
theorem len_S {D : Addr} {vs : List Value} {xs : List Str} {n : Nat} {Q : Value → Shared → Prop} (N : News h₀ L s.heap ((D, W.listOf vs.toArray n) :: news)) (hv : StrsAre vs xs) (hz : xs.length < 1000000)
    (h : Q (.int (xs.length : Int) (s.toks + 1)) { s with toks := s.toks + 1 + 1 }) : wpAny (model prog w) A (call (.builtin "len") [.ref D]) Q E s := by
  have hl := hv.len_eq
  refine len_list (News.isList N (.head _)) (by rw [List.size_toArray]; omega) ?_
  rw [List.size_toArray, hl]; exact h
theorem join_M {D : Addr} {vs : List Value} {ys : List Str} {x : Str} {t : Tok} {n : Nat} {Q : Value → Shared → Prop} (N : News h₀ L s.heap ((D, W.listOf vs.toArray n) :: news)) (hv : StrsAre vs ys) (hx : x.length ≤ 16) (hw : (ys.map (·.length)).sum + ys.length ≤ 1048576)
    (h : ∀ t' k, Q (.str (Txt.join x ys) t') { s with toks := k }) : wpAny (model prog w) A (call (.builtin "str.join") [.str x t, .ref D]) Q E s :=
  join_listW (News.isList N (.head _)) (by simpa using hv) hx hw h
end
end Mine
end
section
open PySem PySem.W PyProof.Rows PySem.Calls
set_option maxRecDepth 100000
set_option maxHeartbeats 8000000
namespace Mine
abbrev DT := Int × List Nat
def ltD (d e : DT) : Bool := decide (d.1 < e.1) || (d.1 == e.1 && decide (d.2 < e.2))
abbrev tO (v1 v2 : Value) (n : Nat) : Obj := { cls := .type "tuple", data := .seq #[v1, v2] n }

theorem cmp_toLt {M : Model} {A : Around} {E : Value → Shared → Prop} {s : Shared} {a b : Value} {Q : Value → Shared → Prop} (h : wpAny M A (compareOp .Lt a b) Q E s) : wpAny M A (richCompare .Lt a b) Q E s := h
section
variable {prog : Program} {w : World} {A : Around} {E : Value → Shared → Prop} {s : Shared} {a b : Addr}
theorem lt_tup {i j : Int} {x y : List Nat} {t1 t2 u1 u2 : Tok} {n k : Nat} {Q : Value → Shared → Prop} (hu : A.units < cLine)
    (ha : s.heap.get? a = some (tO (.int i t1) (.str (ofL x) t2) n)) (hb : s.heap.get? b = some (tO (.int j u1) (.str (ofL y) u2) k))
    (h : Q (.bool (ltD (i, x) (j, y))) s) : wpAny (model prog w) A (compareOp .Lt (.ref a) (.ref b)) Q E s := by
  have hTa : s.TypeIs (.ref a) "tuple" := ⟨_, ha, rfl⟩
  have hTb : s.TypeIs (.ref b) "tuple" := ⟨_, hb, rfl⟩
  refine cmp_ofLt (wpAny_richCompare_same_room (op := .Lt) hTa hTb F.slot_tuple_lt (wpAny_call_entry F.slot_tuple_lt hTa F.entry_tuple_lt ?_ (F.args_tuple_lt_2 _ _)) hu)
  show wpAny _ _ (isInstance (.ref b) (.type "tuple") >>= _) _ _ s
  refine wpAny_bind (wpAny_isInstance hTb isSubtype_tuple_tuple ?_)
  simp only [Bool.not_true, Bool.false_eq_true, if_false]
  refine wpAny_bind (wpAny_tupleItemsOf ha rfl ?_)
  refine wpAny_bind (wpAny_tupleItemsOf hb rfl ?_)
  simp only [List.zip_cons_cons, List.forIn_cons]
  refine wpAny_bind (wpAny_bind (wpAny_bind (wpAny_eqBool_int ?_)))
  by_cases e : i = j
  · subst e
    simp only [beq_self_eq_true, Bool.not_true, Bool.false_eq_true, if_false]
    refine wpAny_pure ?_
    dsimp only
    refine wpAny_bind (wpAny_bind (wpAny_eqBool_str ?_))
    by_cases e : x = y
    · subst e
      simp only [decide_true, Bool.not_true, Bool.false_eq_true, if_false]
      refine wpAny_pure (wpAny_pure (wpAny_pure ⟨_, rfl, (fun q => nomatch q), ?_⟩))
      have e2 : ltD (i, x) (i, x) = false := by simp [ltD]
      rw [e2] at h
      exact h
    · have e3 : decide (ofL x = ofL y) = false := decide_eq_false fun q => e (ofL_inj q)
      simp only [e3, Bool.not_false, if_true]
      have e4 : ltD (i, x) (i, y) = decide ((ofL x).cps.toList < (ofL y).cps.toList) := by
        unfold ltD
        simp only [Int.lt_irrefl, decide_false, Bool.false_or, beq_self_eq_true, Bool.true_and]
        exact decide_eq_decide.mpr (by simp [ofL])
      rw [e4] at h
      refine wpAny_bind (wpAny_rule (wpAny_bind (cmp_toLt (PySem.P.lt_str ?_))))
      exact wpAny_bind (wpAny_pure (wpAny_pure (wpAny_pure (wpAny_pure ⟨_, rfl, (fun q => nomatch q), h⟩))))
  · have e1 : (i == j) = false := beq_eq_false_iff_ne.mpr e
    simp only [e1, Bool.not_false, if_true]
    have e4 : ltD (i, x) (j, y) = decide (i < j) := by simp [ltD, e1]
    rw [e4] at h
    refine wpAny_bind (wpAny_rule (wpAny_bind (cmp_toLt (lt_int ?_))))
    exact wpAny_bind (wpAny_pure (wpAny_pure (wpAny_pure (wpAny_pure ⟨_, rfl, (fun q => nomatch q), h⟩))))
end
end Mine
namespace Mine
open PySem PySem.W PyProof.Rows PySem.Calls
abbrev dd : DT := (0, [])
/-- the ledger bears the pair d at v -/
def IT (T : List (Addr × Obj)) (v : Value) (d : DT) : Prop := ∃ a t1 t2 n, v = .ref a ∧ (a, tO (.int d.1 t1) (.str (ofL d.2) t2) n) ∈ T
def ITs (T : List (Addr × Obj)) : List Value → List DT → Prop
  | [], [] => True
  | v :: vs, d :: ds => IT T v d ∧ ITs T vs ds
  | _, _ => False
theorem IT.mono {T T' : List (Addr × Obj)} {v : Value} {d : DT} (h : IT T v d) (hs : ∀ p ∈ T, p ∈ T') : IT T' v d :=
  let ⟨a, t1, t2, n, e, hm⟩ := h; ⟨a, t1, t2, n, e, hs _ hm⟩
theorem ITs.mono {T T' : List (Addr × Obj)} (hs : ∀ p ∈ T, p ∈ T') : ∀ {vs : List Value} {ds : List DT}, ITs T vs ds → ITs T' vs ds
  | [], [], _ => trivial
  | _ :: _, _ :: _, h => ⟨h.1.mono hs, ITs.mono hs h.2⟩
theorem ITs.len {T : List (Addr × Obj)} : ∀ {vs : List Value} {ds : List DT}, ITs T vs ds → vs.length = ds.length
  | [], [], _ => rfl
  | _ :: _, _ :: _, h => by simp [ITs.len h.2]
theorem ITs.get {T : List (Addr × Obj)} : ∀ {vs : List Value} {ds : List DT}, ITs T vs ds → ∀ {i : Nat}, i < ds.length → ∃ v, vs[i]? = some v ∧ IT T v (ds.getD i dd)
  | [], [], _, _, hi => absurd hi (Nat.not_lt_zero _)
  | v :: _, _ :: _, h, 0, _ => ⟨v, rfl, h.1⟩
  | _ :: _, _ :: _, h, i + 1, hi => ITs.get (T := T) h.2 (i := i) (Nat.lt_of_succ_lt_succ hi)
theorem ITs.set {T : List (Addr × Obj)} {v : Value} {d : DT} (hv : IT T v d) : ∀ {vs : List Value} {ds : List DT}, ITs T vs ds → ∀ (i : Nat), ITs T (vs.set i v) (ds.set i d)
  | [], [], _, _ => trivial
  | _ :: _, _ :: _, h, 0 => ⟨hv, h.2⟩
  | _ :: _, _ :: _, h, i + 1 => ⟨h.1, ITs.set hv h.2 i⟩
theorem ITs.snoc {T : List (Addr × Obj)} {v : Value} {d : DT} (hv : IT T v d) : ∀ {vs : List Value} {ds : List DT}, ITs T vs ds → ITs T (vs ++ [v]) (ds ++ [d])
  | [], [], _ => ⟨hv, trivial⟩
  | _ :: _, _ :: _, h => ⟨h.1, ITs.snoc hv h.2⟩
theorem ITs.take {T : List (Addr × Obj)} : ∀ {vs : List Value} {ds : List DT}, ITs T vs ds → ∀ (i : Nat), ITs T (vs.take i) (ds.take i)
  | [], [], _, _ => by simp [ITs]
  | _ :: _, _ :: _, _, 0 => trivial
  | _ :: _, _ :: _, h, i + 1 => ⟨h.1, ITs.take h.2 i⟩
def Sub (T₀ T : List (Addr × Obj)) : Prop := ∀ p ∈ T₀, p ∈ T
theorem subGet {h₀ h : Heap} {L H a : Addr} {o o' : Obj} {T T₀ : List (Addr × Obj)} (N : News h₀ L h ((H, o') :: T)) (hs : Sub T₀ T) (hm : (a, o) ∈ T₀) : h.get? a = some o := (N _ (.tail _ (hs _ hm))).1
theorem Sub.rfl {T : List (Addr × Obj)} : Sub T T := fun _ h => h
theorem Sub.app {T T₀ own : List (Addr × Obj)} (h : Sub T₀ T) : Sub T₀ (own ++ T) := fun p hp => List.mem_append_right _ (h p hp)
theorem Sub.cons {T T₀ : List (Addr × Obj)} {x : Addr × Obj} (h : Sub T₀ T) : Sub T₀ (x :: T) := fun p hp => .tail _ (h p hp)

section
variable {prog : Program} {w : World} {A : Around} {E : Value → Shared → Prop} {s : Shared} {h₀ : Heap} {L H : Addr} {m : Str → Option Value} {T T₀ : List (Addr × Obj)} {vs : List Value} {ds : List DT} {n : Nat} {k : Int} {u : Tok}
theorem item_M {value slice : PySem.Expr} {Q : Value → Shared → Prop} (N : News h₀ L s.heap ((H, W.listOf vs.toArray n) :: T)) (hv : ITs T₀ vs ds) (h0 : 0 ≤ k) (hk : k < (ds.length : Int)) (hfit : k < 2 ^ 63)
    (h : ∀ a t1 t2 c, (a, tO (.int (ds.getD k.toNat dd).1 t1) (.str (ofL (ds.getD k.toNat dd).2) t2) c) ∈ T₀ → Q (.ref a) s)
    (hs : subscripted slice false (.ref H) (.int k u) = operate [.ref H, .int k u] (getItem (.ref H) (.int k u)) := by with_unfolding_all rfl) (hg : ∀ r, letTemporaryGo value (.ref H) r = pure () := by intro _; with_unfolding_all rfl) :
    wpAny (model prog w) A (subscriptTail value slice (.ref H) (.int k u)) Q E s := by
  obtain ⟨v, hx, a, t1, t2, c, rfl, hm⟩ := hv.get (i := k.toNat) (by omega)
  exact kim_list N (.head _) rfl rfl h0 hfit hx (h a t1 t2 c hm) hs hg
theorem set_M {Q : Unit → Shared → Prop} {v : Value} {d : DT} (F : Fr h₀ L s.heap m) (N : News h₀ L s.heap ((H, W.listOf vs.toArray n) :: T)) (ho : OwnOff T [H]) (hv : ITs T₀ vs ds) (hx : IT T₀ v d) (h0 : 0 ≤ k) (hk : k < (ds.length : Int)) (hfit : k < 2 ^ 63)
    (h : ∀ h', Fr h₀ L h' m → News h₀ L h' ((H, W.listOf (vs.set k.toNat v).toArray n) :: T) → ITs T₀ (vs.set k.toNat v) (ds.set k.toNat d) → Q () { s with heap := h' }) :
    wpAny (model prog w) A (setItem (.ref H) (.int k u) v) Q E s := by
  have z := N (H, W.listOf vs.toArray n) (.head _)
  have hl := hv.len
  refine ki_setAt z.1 h0 hfit (by rw [List.size_toArray]; omega) (h _ (F.change (Heap.SameBut.update ..) z.2.1 z.2.2) (ki_turn (pre := []) (post := T) _ N (fun _ q => nomatch q) (fun p hp => ho p hp H (.head _)) ?_ ?_) (hv.set hx _))
  · apply Array.toList_inj.mp
    simp
  · simp
theorem len_M {Q : Value → Shared → Prop} (N : News h₀ L s.heap ((H, W.listOf vs.toArray n) :: T)) (hv : ITs T₀ vs ds) (hfit : ds.length < 1000000)
    (h : Q (.int (ds.length : Int) (s.toks + 1)) { s with toks := s.toks + 1 + 1 }) : wpAny (model prog w) A (call (.builtin "len") [.ref H]) Q E s := by
  have hl := hv.len
  refine len_list (News.isList N (.head _)) (by rw [List.size_toArray]; omega) ?_
  rw [List.size_toArray, hl]; exact h
theorem append_M {Q : Value → Shared → Prop} {v : Value} {d : DT} (F : Fr h₀ L s.heap m) (N : News h₀ L s.heap ((H, W.listOf vs.toArray n) :: T)) (ho : OwnOff T [H]) (hv : ITs T₀ vs ds) (hx : IT T₀ v d) (hz : ds.length ≤ 1000000)
    (h : ∀ h', Fr h₀ L h' m → News h₀ L h' ((H, W.listOf (vs ++ [v]).toArray (n + 1)) :: T) → ITs T₀ (vs ++ [v]) (ds ++ [d]) → Q .none { s with heap := h' }) :
    wpAny (model prog w) A (call (.builtin "list.append") [.ref H, v]) Q E s := by
  have hl := hv.len
  refine append_K F N (.head fun p hp => ho p hp H (.head _)) (fun h' F' N' => ?_) (by rw [List.size_toArray, sizeLine_eq]; omega)
  rw [List.push_toArray] at N'
  exact h h' F' N' (hv.snoc hx)
theorem pop_M {Q : Value → Shared → Prop} (F : Fr h₀ L s.heap m) (N : News h₀ L s.heap ((H, W.listOf vs.toArray n) :: T)) (ho : OwnOff T [H]) (hv : ITs T₀ vs ds) (hne : 0 < ds.length) (hz : ds.length ≤ 1000000)
    (h : ∀ h' a t1 t2 c, (a, tO (.int (ds.getD (ds.length - 1) dd).1 t1) (.str (ofL (ds.getD (ds.length - 1) dd).2) t2) c) ∈ T₀ → Fr h₀ L h' m → News h₀ L h' ((H, W.listOf vs.dropLast.toArray (n + 1)) :: T) → ITs T₀ vs.dropLast ds.dropLast → Q (.ref a) { s with heap := h' }) :
    wpAny (model prog w) A (call (.builtin "list.pop") [.ref H]) Q E s := by
  have hl := hv.len
  obtain ⟨v, hx, a, t1, t2, c, rfl, hm⟩ := hv.get (i := ds.length - 1) (by omega)
  have hvd : ITs T₀ vs.dropLast ds.dropLast := by
    rw [List.dropLast_eq_take, List.dropLast_eq_take, hl]; exact hv.take _
  have e : vs = vs.dropLast ++ [.ref a] := by
    have hne' : vs ≠ [] := List.length_pos_iff.mp (by omega)
    have e1 := List.dropLast_concat_getLast hne'
    have e2 : vs.getLast hne' = .ref a := by
      rw [List.getLast_eq_getElem]
      have := List.getElem?_eq_some_iff.mp hx
      obtain ⟨_, h3⟩ := this
      simp only [hl]
      exact h3
    rw [e2] at e1
    exact e1.symm
  refine kl_pop F N (p := vs.dropLast) (y := .ref a) ?_ (.head fun p hp => ho p hp H (.head _)) (by rw [sizeLine_eq]; simp only []; omega) (fun h' F' N' => h h' a t1 t2 c hm F' N' hvd)
  show kl_last vs = _
  rw [e]
  simp only [List.dropLast_concat]
  exact kpa_last _ _
theorem truthy_M {Q : Bool → Shared → Prop} (N : News h₀ L s.heap ((H, W.listOf vs.toArray n) :: T)) (hv : ITs T₀ vs ds) (hz : ds.length ≤ 1000000)
    (h : Q (decide (0 < ds.length)) { s with toks := s.toks + 1 + 1 }) : wpAny (model prog w) A (truthy (.ref H)) Q E s := by
  have hl := hv.len
  refine wpAny_truthy_list (News.isList N (.head _)) (by rw [List.size_toArray]; omega) ?_
  have e : (!vs.toArray.isEmpty) = decide (0 < ds.length) := by
    rw [List.isEmpty_toArray, ← hl]
    cases vs <;> simp
  rw [e]; exact h
end
end Mine
end
section
open PySem PySem.W PyProof.Rows PySem.Calls
set_option maxRecDepth 100000
set_option maxHeartbeats 2000000
namespace Mine
section
variable {prog : Program} {w : World} {A : Around} {E : Value → Shared → Prop} {s : Shared} {env : Env} {h₀ : Heap} {xi xc : Str} {pk pv pt : Pos} {x1 : Nat} {body : List Stmt} {Q : Flow → Shared → Prop}
theorem iter_pairsM {l : Addr} {vs : List Value} {m₀ : Str → Option Value} {news T₀ : List (Addr × Obj)} (J : Nat → (Str → Option Value) → List (Addr × Obj) → Prop) (P : Nat → Value → Value → Prop)
    (hh : A.handled = none) (hl : s.heap.IsList l vs.toArray) (hlL : l ≠ env.locals)
    (hxi : env.kindOf xi = some .local) (hxc : env.kindOf xc = some .local)
    (hp : (env.scope.kind == .class || (env.scope.kind == .module && env.locals != env.globals)) = false)
    (hE : PassesOwn (model prog w) A env E)
    (F : Fr h₀ env.locals s.heap m₀) (N : News h₀ env.locals s.heap news)
    (hJ : J 0 m₀ news) (hJT : ∀ i m nx, J i m nx → Sub T₀ nx)
    (hget : ∀ i v, vs[i]? = some v → ∃ a u1 u2 c, v = .ref a ∧ (a, tO u1 u2 c) ∈ T₀ ∧ P i u1 u2)
    (turn : ∀ i u1 u2 m₁ news₁ h tk own, i < vs.length → P i u1 u2 → J i m₁ news₁ → (∀ p ∈ own, p.1 = s.heap.objs.size ∨ p.1 = l) → (∀ p ∈ news₁, p.1 ≠ s.heap.objs.size) →
      Fr h₀ env.locals h (fun z => if z = xc then some u2 else if z = xi then some u1 else m₁ z) → News h₀ env.locals h (own ++ news₁) →
      wpAny (model prog w) A (execs body env) (StepM h₀ env.locals s.heap.objs.size own (J (i + 1)) s Q) E { s with heap := h, toks := tk })
    (done : ∀ m₁ news₁ h tk, J vs.length m₁ news₁ → (∀ p ∈ news₁, p.1 ≠ s.heap.objs.size) → Fr h₀ env.locals h m₁ → News h₀ env.locals h news₁ → Q .next { s with heap := h, toks := tk }) :
    wpAny (model prog w) A (pyIter (.ref l)) (fun it s₂ => codeAny (model prog w) A (.forLoop (.Tuple [.Name xi pk, .Name xc pv] x1 pt) it body [] env) (fun r s' => match r with | .ok f => Q f s' | .error e => cameBackBy (model prog w) A env E e s') s₂) E s := by
  obtain ⟨ol, hol, _⟩ := id hl
  have hlt : l < s.heap.objs.size := Heap.lt_size hol
  have hne : l ≠ s.heap.objs.size := Nat.ne_of_lt hlt
  have hIL : env.locals ≠ s.heap.objs.size := Nat.ne_of_lt F.ns.lt
  have hI0 := next_is_new F
  refine wpAny_pyIter_list hl ?_
  generalize hI : s.heap.objs.size = I at *
  have hLf : env.locals ∉ [I, l] := by
    intro hm
    rcases List.mem_cons.mp hm with e | hm
    · exact hIL e
    · exact hlL (List.mem_singleton.mp hm).symm
  refine codeAny_forLoop_any
    (fun k s' => ∃ h' tk m' news' i, s' = { s with heap := h', toks := tk } ∧ h'.IsListIter I l i ∧ h'.IsList l vs.toArray ∧ Fr h₀ env.locals h' m' ∧ News h₀ env.locals h' news' ∧ (∀ p ∈ news', p.1 ≠ I) ∧ J i m' news' ∧ i ≤ vs.length ∧ k = vs.length + 1 - i) ?_ (vs.length + 1)
    ⟨_, _, m₀, news, 0, rfl, ⟨_, hI ▸ Heap.get?_push_size _ rfl, rfl, rfl⟩, hl.at fun o e => Heap.get?_push_of_some _ e, F.push _, (fun p hp => ⟨Heap.get?_push_of_some _ (N p hp).1, (N p hp).2⟩),
      fun p hp e => absurd (Heap.lt_size (N p hp).1) (by rw [hI, e]; exact Nat.lt_irrefl _), hJ, Nat.zero_le _, rfl⟩
  rintro k s' ⟨H, tk, m', news', i, rfl, hit', hl', F', N', ho', hJ', hi, rfl⟩
  have next : ∀ h₁ : Heap, (∀ b o, b ≠ I → H.get? b = some o → h₁.get? b = some o) → Fr h₀ env.locals h₁ m' ∧ News h₀ env.locals h₁ news' := fun h₁ hk₁ =>
    ⟨⟨F'.ns.at' fun o e => hk₁ _ o hIL e, fun b o e => hk₁ b o (fun q => by rw [q, hI0] at e; cases e) (F'.keep b o e), F'.above⟩, fun p hp => ⟨hk₁ _ _ (ho' p hp) (N' p hp).1, (N' p hp).2⟩⟩
  by_cases hlt' : i < vs.length
  · obtain ⟨v, hv⟩ : ∃ v, vs[i]? = some v := ⟨vs[i], List.getElem?_eq_getElem hlt'⟩
    obtain ⟨a, u1, u2, c, rfl, hm, hP⟩ := hget i v hv
    refine wpAny_pyNext_list_item hit' hl' (by simpa using hv) fun h₁ hit₁ hs₁ => ?_
    have up₁ : ∀ b o, b ≠ I → H.get? b = some o → h₁.get? b = some o := fun b o hb e => hs₁.extBut b o hb e
    obtain ⟨F₁, N₁⟩ := next h₁ up₁
    have ht₁ : IsTup h₁ a #[u1, u2] := ⟨_, (N₁ _ (hJT _ _ _ hJ' _ hm)).1, rfl, _, rfl⟩
    refine wpAny_letOwnedTupleGo_listiter hit₁ ?_
    refine assign_Tuple_tuple (hh) ht₁ rfl rfl fun h₃ hx₃ => ?_
    replace hx₃ : Heap.ExtBut h₁.objs.size h₁ h₃ := hx₃
    have up₃ : ∀ b o, h₁.get? b = some o → h₃.get? b = some o := fun b o x => hx₃ b o (Nat.ne_of_lt (Heap.lt_size x)) x
    obtain ⟨F₃, N₃⟩ := next h₃ fun b o hb x => up₃ b o (up₁ b o hb x)
    show wpAny _ A (do holding [u2] (assign (.Name xi pk) env u1); do holding [] (assign (.Name xc pv) env u2); pure ()) _ _ _
    refine wpAny_bind (wpAny_holding (wpAny_assign_Name (wpAny_storeName_local hxi F₃.ns (fun h₄ hn₄ hs₄ => ?_) hp)))
    replace hs₄ : Heap.SameBut env.locals h₃ h₄ := hs₄
    have F₄ := F₃.set hn₄ hs₄
    refine wpAny_bind (wpAny_holding (wpAny_assign_Name (wpAny_storeName_local hxc F₄.ns (fun h₅ hn₅ hs₅ => wpAny_pure ?_) hp)))
    replace hs₅ : Heap.SameBut env.locals h₄ h₅ := hs₅
    have F₅ := F₄.set hn₅ hs₅
    have N₅ : News h₀ env.locals h₅ news' := (N₃.set hs₄).set hs₅
    have up₅ : ∀ b ∈ [I, l], ∀ o, h₁.get? b = some o → h₅.get? b = some o := fun b hb o e => hs₅.extBut b o (fun q => hLf (q ▸ hb)) (hs₄.extBut b o (fun q => hLf (q ▸ hb)) (up₃ b o e))
    have hit₅ : h₅.IsListIter I l (i + 1) := hit₁.at fun o e => up₅ I (by simp) o e
    have hl₅ : h₅.IsList l vs.toArray := (hl'.extBut hs₁.extBut hne).at fun o e => up₅ l (by simp) o e
    refine wpAny_mono (wpAny_passesOwn hE (turn i u1 u2 m' news' h₅ _ (ownOf h₀ [I, l] h₅) hlt' hP hJ' (fun p hp => by
      rcases List.mem_cons.mp (ownOf_sub p hp) with e | e
      · exact .inl e
      · exact .inr (List.mem_singleton.mp e)) ho' F₅ ((news_ownOf hLf).append N₅))) (fun f s₃ h₆ => ?_) fun _ _ e => e
    have fin : (∃ h' tk m' news₂, s₃ = { s with heap := h', toks := tk } ∧ Fr h₀ env.locals h' m' ∧ News h₀ env.locals h' (ownOf h₀ [I, l] h₅ ++ news₂) ∧ (∀ p ∈ news₂, p.1 ≠ I) ∧ J (i + 1) m' news₂) →
        ∃ m, m < vs.length + 1 - i ∧ ∃ h' tk m' news' i, s₃ = { s with heap := h', toks := tk } ∧ h'.IsListIter I l i ∧ h'.IsList l vs.toArray ∧ Fr h₀ env.locals h' m' ∧ News h₀ env.locals h' news' ∧ (∀ p ∈ news', p.1 ≠ I) ∧ J i m' news' ∧ i ≤ vs.length ∧ m = vs.length + 1 - i := by
      rintro ⟨h', tk', m₂, news₂, rfl, F₆, N₆, ho₆, hJ₆⟩
      have keep : ∀ b ∈ [I, l], ∀ o, h₅.get? b = some o → h'.get? b = some o := fun b hb o e => by
        cases hn : h₀.get? b with
        | some o₀ =>
          have : o₀ = o := by have q := F₅.keep b o₀ hn; rw [e] at q; exact (Option.some.inj q).symm
          exact this ▸ F₆.keep b o₀ hn
        | none => exact (N₆ _ (List.mem_append_left _ (mem_ownOf hb hn e))).1
      exact ⟨vs.length + 1 - (i + 1), by omega, h', tk', m₂, news₂, i + 1, rfl, hit₅.at fun o e => keep I (by simp) o e, hl₅.at fun o e => keep l (by simp) o e, F₆, N₆.right, ho₆, hJ₆, hlt', rfl⟩
    cases f with
    | ret v => exact h₆
    | brk => exact h₆
    | cont => exact fin h₆
    | next => exact fin h₆
  · have hin : i = vs.length := by omega
    subst hin
    refine wpAny_pyNext_list_end hh hit' hl' (by simp) fun h₁ he₁ => wpAny_execs_nil ?_
    obtain ⟨F₁, N₁⟩ := next h₁ fun b o hb e => he₁ b o hb e
    exact done m' news' h₁ tk hJ' ho' F₁ N₁
end
end Mine
namespace Mine
open PySem PySem.W PyProof.Rows PySem.Calls
abbrev PD := List Nat × List Nat
/-- the ledger bears a pair of texts at v -/
def PT (T : List (Addr × Obj)) (v : Value) (d : PD) : Prop := ∃ a t1 t2 n, v = .ref a ∧ (a, tO (.str (ofL d.1) t1) (.str (ofL d.2) t2) n) ∈ T
def PTs (T : List (Addr × Obj)) : List Value → List PD → Prop
  | [], [] => True
  | v :: vs, d :: ds => PT T v d ∧ PTs T vs ds
  | _, _ => False
theorem PT.mono {T T' : List (Addr × Obj)} {v : Value} {d : PD} (h : PT T v d) (hs : ∀ p ∈ T, p ∈ T') : PT T' v d :=
  let ⟨a, t1, t2, n, e, hm⟩ := h; ⟨a, t1, t2, n, e, hs _ hm⟩
theorem PTs.mono {T T' : List (Addr × Obj)} (hs : ∀ p ∈ T, p ∈ T') : ∀ {vs : List Value} {ds : List PD}, PTs T vs ds → PTs T' vs ds
  | [], [], _ => trivial
  | _ :: _, _ :: _, h => ⟨h.1.mono hs, PTs.mono hs h.2⟩
theorem PTs.len {T : List (Addr × Obj)} : ∀ {vs : List Value} {ds : List PD}, PTs T vs ds → vs.length = ds.length
  | [], [], _ => rfl
  | _ :: _, _ :: _, h => by simp [PTs.len h.2]
theorem PTs.snoc {T : List (Addr × Obj)} {v : Value} {d : PD} (hv : PT T v d) : ∀ {vs : List Value} {ds : List PD}, PTs T vs ds → PTs T (vs ++ [v]) (ds ++ [d])
  | [], [], _ => ⟨hv, trivial⟩
  | _ :: _, _ :: _, h => ⟨h.1, PTs.snoc hv h.2⟩
theorem PTs.get {T : List (Addr × Obj)} : ∀ {vs : List Value} {ds : List PD}, PTs T vs ds → ∀ {i : Nat} {v : Value}, vs[i]? = some v → ∃ d, ds[i]? = some d ∧ PT T v d
  | [], [], _, _, _, hi => by simp at hi
  | v :: _, d :: _, h, 0, _, hi => ⟨d, rfl, by simp at hi; exact hi ▸ h.1⟩
  | _ :: _, _ :: _, h, i + 1, _, hi => PTs.get (T := T) h.2 (i := i) (by simpa using hi)
theorem PTs.append {T : List (Addr × Obj)} : ∀ {vs us : List Value} {ds es : List PD}, PTs T vs ds → PTs T us es → PTs T (vs ++ us) (ds ++ es)
  | [], _, [], _, _, h => h
  | _ :: _, _, _ :: _, _, h, h2 => ⟨h.1, PTs.append h.2 h2⟩
theorem PTs.reverse {T : List (Addr × Obj)} : ∀ {vs : List Value} {ds : List PD}, PTs T vs ds → PTs T vs.reverse ds.reverse
  | [], [], _ => trivial
  | _ :: _, _ :: _, h => by
    rw [List.reverse_cons, List.reverse_cons]
    exact PTs.append (PTs.reverse h.2) ⟨h.1, trivial⟩
def flatP (ps : List PD) : List (List Nat) := ps.flatMap fun p => [p.1, p.2]
theorem flatP_len (ps : List PD) : (flatP ps).length = 2 * ps.length := by
  induction ps with
  | nil => rfl
  | cons p r ih => simp only [flatP, List.flatMap_cons, List.length_append, List.length_cons, List.length_nil] at *; omega
theorem flatP_take (ps : List PD) (i : Nat) (d : PD) (h : ps[i]? = some d) : flatP (ps.take (i + 1)) = flatP (ps.take i) ++ [d.1] ++ [d.2] := by
  rw [List.take_add_one, h]
  simp [flatP]
end Mine
end
section
open PySem PySem.W PyProof.Rows PySem.Calls
set_option maxRecDepth 100000
set_option maxHeartbeats 2000000
namespace Mine
section
variable {prog : Program} {w : World} {A : Around} {E : Value → Shared → Prop} {R : Result → Shared → Prop} {s : Shared}
theorem compLoopT {elt target iter : PySem.Expr} {ifs : List PySem.Expr} {scope : Scope} {pos : Pos} {it acc : Value} {env : Env} (I : Nat → Shared → Prop)
    (turn : ∀ n s, I n s → wpAny (model prog w) A (pyNext it) (fun r s₁ => match r with
      | none => R (.ok .next) s₁
      | some v => wpAny (model prog w) A (letOwnedTupleGo target it v) (fun _ s₁' => wpAny (model prog w) A (assign target env v) (fun _ s₂ =>
          wpAny (model prog w) A (forIn ifs true fun c r => if r = true then do let ok ← isTrue c env (eval c env); pure (ForInStep.yield ok) else pure (ForInStep.yield r)) (fun ok s₃ =>
            if ok = true then wpAny (model prog w) A (eval elt env) (fun x s₄ =>
              wpAny (model prog w) A (call (.builtin "list.append") [acc, x]) (fun _ s₅ => ∃ m, m < n ∧ I m s₅) (fun _ _ => False) s₄) (fun _ _ => False) s₃
            else ∃ m, m < n ∧ I m s₃) (fun _ _ => False) s₂) (fun _ _ => False) s₁') (fun _ _ => False) s₁) (fun _ _ => False) s)
    (n : Nat) (h : I n s) :
    codeAny (model prog w) A (.compLoop (.ListComp elt [⟨target, iter, ifs, 0⟩] scope pos) 0 it acc env) R s := by
  refine codeAny_loop rfl I (fun n s hI => ?_) n h
  show wpAny _ A ((compTurn (.ListComp elt [⟨target, iter, ifs, 0⟩] scope pos) 0 it acc env).onRaise (fun x => do noteFrame x env; theTreesLotGoes x)) _ _ s
  refine wpAny_noted ?_
  rw [compTurn_list]
  refine wpAny_bind (wpAny_standAt (wpAny_bind (wpAny_mono (turn n s hI) (fun r s₁ h₁ => ?_) fun _ _ h' => h'.elim)))
  cases r with
  | none => exact wpAny_pure h₁
  | some v =>
    refine wpAny_bind (wpAny_mono h₁ (fun _ s₁' h₁' => ?_) fun _ _ h' => h'.elim)
    refine wpAny_bind (wpAny_mono h₁' (fun _ s₂ h₂ => wpAny_bind (wpAny_mono h₂ (fun ok s₃ h₃ => ?_) fun _ _ h' => h'.elim)) fun _ _ h' => h'.elim)
    cases ok with
    | false => exact wpAny_pure ⟨rfl, h₃⟩
    | true =>
      exact wpAny_bind (wpAny_bind (wpAny_mono h₃ (fun x s₄ h₄ => wpAny_bind (wpAny_mono h₄ (fun _ s₅ h₅ => wpAny_pure (wpAny_pure ⟨rfl, h₅⟩)) fun _ _ h' => h'.elim)) fun _ _ h' => h'.elim))
end

/-- the end of a turn of a comprehension -/
def CEnd (h₀ : Heap) (C D L I : Addr) (own : List (Addr × Obj)) (oL : Obj) (ys : List Value) (ep : Nat) (J : List (Addr × Obj) → Prop) (s s' : Shared) : Prop :=
  ∃ h' tk mc nx, s' = { s with heap := h', toks := tk } ∧ Fr h₀ C h' mc ∧ News h₀ C h' ((D, W.listOf ys.toArray ep) :: (L, oL) :: (own ++ nx)) ∧ (∀ p ∈ nx, p.1 ≠ D ∧ p.1 ≠ L ∧ p.1 ≠ I) ∧ J nx

theorem leN {a b : Nat} (h : a ≤ b) : a ≤ b := h
theorem eqN {a b : Nat} (h : a = b) : a = b := h
local macro_rules | `(tactic| walk_at "OM") => `(tactic| first | omega | (refine neN ?_; omega) | (refine ltN ?_; omega) | (refine leN ?_; omega))
section
variable {prog : Program} {w : World} {A : Around} {E : Value → Shared → Prop} {s : Shared} {env : Env} {h₀ : Heap}
theorem comp_listM {elt target iter : PySem.Expr} {ifs : List PySem.Expr} {scope : Scope} {cl : List (Str × Addr)} {pos : Pos} {use : Option (Value → Sem Unit)} {Q : Value → Shared → Prop}
    {l : Addr} {vs : List Value} {m₀ : Str → Option Value} {news : List (Addr × Obj)} (J : Nat → List Value → List (Addr × Obj) → Prop) (B : Nat → Value → (Str → Option Value) → Prop)
    (hh : A.handled = none) (hcell : ∀ y ∈ scope.names, y.2 ≠ .cell) (hkind : scope.kind = .function)
    (hl : s.heap.IsList l vs.toArray) (hlL : l ≠ env.locals) (hsz : vs.length ≤ 1000000)
    (F : Fr h₀ env.locals s.heap m₀) (N : News h₀ env.locals s.heap news) (hJ : J 0 [] news)
    (hgo : ∀ C I i v h tk mc nx ys nj, vs[i]? = some v → J i ys nj → (∀ p ∈ nj, p ∈ nx) → h.IsListIter I l (i + 1) → Fr h₀ C h mc → News h₀ C h nx →
      wpAny (model prog w) A (letOwnedTupleGo target (.ref I) v) (fun _ s₁ => wpAny (model prog w) A (assign target (compEnvC scope cl C env) v) (fun _ s₂ =>
        ∃ h' tk' mc', s₂ = { s with heap := h', toks := tk' } ∧ Fr h₀ C h' mc' ∧ News h₀ C h' nx ∧ B i v mc') (fun _ _ => False) s₁) (fun _ _ => False) { s with heap := h, toks := tk })
    (turn : ∀ C D I i v ys nx ep oL h tk mc own, vs[i]? = some v → J i ys nx → B i v mc → ys.length ≤ i → (∀ p ∈ own, p.1 = I ∨ p.1 = l) → (∃ o, (I, o) ∈ own) → (∀ p ∈ nx, p.1 ≠ D ∧ p.1 ≠ env.locals ∧ p.1 ≠ I) →
      Fr h₀ C h mc → News h₀ C h ((D, W.listOf ys.toArray ep) :: (env.locals, oL) :: (own ++ nx)) →
      wpAny (model prog w) A (forIn ifs true fun c r => if r = true then do let ok ← isTrue c (compEnvC scope cl C env) (eval c (compEnvC scope cl C env)); pure (ForInStep.yield ok) else pure (ForInStep.yield r)) (fun ok s₃ =>
        if ok = true then wpAny (model prog w) A (eval elt (compEnvC scope cl C env)) (fun y s₄ => CEnd h₀ C D env.locals I own oL ys ep (J (i + 1) (ys ++ [y])) s s₄) (fun _ _ => False) s₃
        else CEnd h₀ C D env.locals I own oL ys ep (J (i + 1) ys) s s₃) (fun _ _ => False) { s with heap := h, toks := tk })
    (done : ∀ D C ys nx ep h tk mc, J vs.length ys nx → (∀ p ∈ nx, p.1 ≠ D ∧ p.1 ≠ C) → D ≠ env.locals → D ≠ C → C ≠ env.locals → h₀.get? C = none → (∀ p ∈ news, p.1 < D) → Fr h₀ env.locals h m₀ → News h₀ env.locals h ((D, W.listOf ys.toArray ep) :: nx) → h.Ns C mc →
      compPost (model prog w) A E use Q (.ref D) C (.ok .next) { s with heap := h, toks := tk }) :
    wpAny (model prog w) A (pyIter (.ref l)) (fun it s₂ => wpAny (model prog w) A (newList []) (fun acc s₃ => wpAny (model prog w) A (newFunctionEnv scope env.globals cl [] env.qual none .none (some env)) (fun cenv s₄ =>
      codeAny (model prog w) A (.compStart (.ListComp elt [⟨target, iter, ifs, 0⟩] scope pos) 0 it acc { cenv with scope := relabel scope env }) (compPost (model prog w) A E use Q acc cenv.locals) s₄) E s₃) E s₂) E s := by
  obtain ⟨ol, hol, _⟩ := id hl
  have hlt := ltN (Heap.lt_size hol)
  obtain ⟨oL, esL, epL, hLo, hLd, hLk, hLf⟩ := id F.ns
  have hLlt := ltN F.ns.lt
  have hab := F.above
  refine wpAny_pyIter_list hl ?_
  refine wpAny_newObj_type (wpAny_newFunctionEnv hcell (by intro y hy; simp at hy) (fun h₁ hns₁ hsb₁ => ?_) hkind)
  dsimp only at hns₁ hsb₁ ⊢
  generalize hH1 : s.heap.push _ = H1 at hns₁ hsb₁ ⊢
  have hs1 : H1.objs.size = s.heap.objs.size + 1 := by rw [← hH1, Heap.size_push]
  generalize hH2 : H1.push _ = H2 at hns₁ hsb₁ ⊢
  have hs2 : H2.objs.size = s.heap.objs.size + 2 := by rw [← hH2, Heap.size_push, hs1]
  have g1 : ∀ b o, s.heap.get? b = some o → H1.get? b = some o := fun b o e => hH1 ▸ Heap.get?_push_of_some _ e
  have gI : H1.get? s.heap.objs.size = some { cls := .type "list_iterator", data := .fields #[.ref l, .int 0 0] } := hH1 ▸ Heap.get?_push_size _ rfl
  have g2 : ∀ b o, H1.get? b = some o → H2.get? b = some o := fun b o e => hH2 ▸ Heap.get?_push_of_some _ e
  have gD : H2.get? H1.objs.size = some (W.listOf ([] : List Value).toArray 0) := hH2 ▸ Heap.get?_push_size _ rfl
  have g3 : ∀ b o, H2.get? b = some o → h₁.get? b = some o := fun b o e => hsb₁.extBut b o (Nat.ne_of_lt (Heap.lt_size e)) (Heap.get?_push_of_some _ e)
  generalize hI : s.heap.objs.size = I at *
  generalize hD : H1.objs.size = D at *
  generalize hC : H2.objs.size = C at *
  have old : ∀ b o, s.heap.get? b = some o → h₁.get? b = some o := fun b o e => g3 b o (g2 b o (g1 b o e))
  have fresh : ∀ b, I ≤ b → h₀.get? b = none := fun b hb => by
    cases e : h₀.get? b with
    | none => rfl
    | some o => have := ltN (Heap.lt_size (F.keep b o e)); walk_at "OM"
  have F1 : Fr h₀ C h₁ (fun x => ([] : List (Str × Value)).reverse.lookup x) := ⟨hns₁, fun b o e => old b o (F.keep b o e), by walk_at "OM"⟩
  have N1 : News h₀ C h₁ ((D, W.listOf ([] : List Value).toArray 0) :: (env.locals, oL) :: news) := by
    intro p hp
    rcases List.mem_cons.mp hp with rfl | hp
    · exact ⟨g3 _ _ gD, by show D ≠ C; walk_at "OM", fresh _ (by show I ≤ D; walk_at "OM")⟩
    · rcases List.mem_cons.mp hp with rfl | hp
      · refine ⟨old _ _ hLo, by show env.locals ≠ C; walk_at "OM", ?_⟩
        show h₀.get? env.locals = none
        cases e : h₀.get? env.locals with
        | none => rfl
        | some o => have := ltN (Heap.lt_size e); walk_at "OM"
      · have := ltN (Heap.lt_size (N p hp).1)
        exact ⟨old _ _ (N p hp).1, by walk_at "OM", (N p hp).2.2⟩
  have ho1 : ∀ p ∈ news, p.1 ≠ D ∧ p.1 ≠ env.locals ∧ p.1 ≠ I := fun p hp => by
    have := ltN (Heap.lt_size (N p hp).1)
    exact ⟨by walk_at "OM", (N p hp).2.1, by walk_at "OM"⟩
  have hCf : C ∉ [I, l] := by
    intro hm
    rcases List.mem_cons.mp hm with e | hm
    · walk_at "OM"
    · have := List.mem_singleton.mp hm; walk_at "OM"
  have loop : ∀ s₃ : Shared, s₃ = { s with heap := h₁, toks := s.toks + ([] : List (Str × Value)).length } →
      codeAny (model prog w) A (.compLoop (.ListComp elt [⟨target, iter, ifs, 0⟩] scope pos) 0 (.ref I) (.ref D) (compEnvC scope cl C env)) (compPost (model prog w) A E use Q (.ref D) C) s₃ := by
    rintro s₃ rfl
    refine compLoopT
      (fun k s' => ∃ h tk mc ys nx ep i, s' = { s with heap := h, toks := tk } ∧ h.IsListIter I l i ∧ h.IsList l vs.toArray ∧ Fr h₀ C h mc ∧ News h₀ C h ((D, W.listOf ys.toArray ep) :: (env.locals, oL) :: nx) ∧ (∀ p ∈ nx, p.1 ≠ D ∧ p.1 ≠ env.locals ∧ p.1 ≠ I) ∧ J i ys nx ∧ ys.length ≤ i ∧ i ≤ vs.length ∧ k = vs.length + 1 - i) ?_ (vs.length + 1)
      ⟨h₁, _, _, [], news, 0, 0, rfl, ⟨_, g3 _ _ (g2 _ _ gI), rfl, rfl⟩, hl.at fun o e => old _ _ e, F1, N1, ho1, hJ, Nat.le_refl _, Nat.zero_le _, rfl⟩
    rintro k s' ⟨h, tk, mc, ys, nx, ep, i, rfl, hit', hl', F', N', ho', hJ', hyl, hi, rfl⟩
    have hDI : D ≠ I := by walk_at "OM"
    have next : ∀ h₁ : Heap, (∀ b o, b ≠ I → h.get? b = some o → h₁.get? b = some o) → Fr h₀ C h₁ mc ∧ News h₀ C h₁ ((D, W.listOf ys.toArray ep) :: (env.locals, oL) :: nx) := fun h₁ hk₁ =>
      ⟨⟨F'.ns.at' fun o e => hk₁ _ o (by walk_at "OM") e, fun b o e => hk₁ b o (fun q => by rw [q, fresh I (Nat.le_refl _)] at e; cases e) (F'.keep b o e), F'.above⟩, fun p hp => by
        refine ⟨hk₁ _ _ ?_ (N' p hp).1, (N' p hp).2⟩
        rcases List.mem_cons.mp hp with rfl | hp
        · exact hDI
        · rcases List.mem_cons.mp hp with rfl | hp
          · show env.locals ≠ I; walk_at "OM"
          · exact (ho' p hp).2.2⟩
    by_cases hlt' : i < vs.length
    · obtain ⟨v, hv⟩ : ∃ v, vs[i]? = some v := ⟨vs[i], List.getElem?_eq_getElem hlt'⟩
      refine wpAny_pyNext_list_item hit' hl' (by simpa using hv) fun h₂ hit₂ hs₂ => ?_
      have up₂ : ∀ b o, b ≠ I → h.get? b = some o → h₂.get? b = some o := fun b o hb e => hs₂.extBut b o hb e
      obtain ⟨F₂, N₂⟩ := next h₂ up₂
      have hl₂ : h₂.IsList l vs.toArray := hl'.extBut hs₂.extBut (by walk_at "OM")
      have N₂' : News h₀ C h₂ (ownOf h₀ [I, l] h₂ ++ ((D, W.listOf ys.toArray ep) :: (env.locals, oL) :: nx)) := (news_ownOf hCf).append N₂
      have keepO : ∀ {h₃ : Heap} {mc' : Str → Option Value} {rest : List (Addr × Obj)}, Fr h₀ C h₃ mc' → News h₀ C h₃ (ownOf h₀ [I, l] h₂ ++ rest) → ∀ b ∈ [I, l], ∀ o, h₂.get? b = some o → h₃.get? b = some o := fun F₃ N₃ b hb o e => by
        cases hn : h₀.get? b with
        | some o₀ =>
          have : o₀ = o := by have q := F₂.keep b o₀ hn; rw [e] at q; exact (Option.some.inj q).symm
          exact this ▸ F₃.keep b o₀ hn
        | none => exact (N₃ _ (List.mem_append_left _ (mem_ownOf hb hn e))).1
      refine wpAny_mono (hgo C I i v h₂ tk mc _ ys nx hv hJ' (fun p hp => List.mem_append_right _ (.tail _ (.tail _ hp))) hit₂ F₂ N₂') (fun _ s₁' q => wpAny_mono q (fun _ s₂ q₂ => ?_) fun _ _ x => x) fun _ _ x => x
      obtain ⟨h₃, tk₃, mc₃, rfl, F₃, N₃, hB⟩ := q₂
      have N₃' : News h₀ C h₃ ((D, W.listOf ys.toArray ep) :: (env.locals, oL) :: (ownOf h₀ [I, l] h₂ ++ nx)) := KStt.news_of N₃ fun p hp => by
        simp only [List.mem_cons, List.mem_append] at hp ⊢
        rcases hp with h | h | h | h
        · exact .inr (.inl h)
        · exact .inr (.inr (.inl h))
        · exact .inl h
        · exact .inr (.inr (.inr h))
      have hown : ∀ p ∈ ownOf h₀ [I, l] h₂, p.1 = I ∨ p.1 = l := fun p hp => by
        rcases List.mem_cons.mp (ownOf_sub p hp) with e | e
        · exact .inl e
        · exact .inr (List.mem_singleton.mp e)
      have hoff : ∀ nx' : List (Addr × Obj), (∀ p ∈ nx', p.1 ≠ D ∧ p.1 ≠ env.locals ∧ p.1 ≠ I) → ∀ p ∈ (env.locals, oL) :: (ownOf h₀ [I, l] h₂ ++ nx'), p.1 ≠ D := fun nx' hx p hp => by
        rcases List.mem_cons.mp hp with rfl | hp
        · show env.locals ≠ D; walk_at "OM"
        · rcases List.mem_append.mp hp with hp | hp
          · rcases hown p hp with e | e
            · rw [e]; walk_at "OM"
            · rw [e]; walk_at "OM"
          · exact (hx p hp).1
      have fin : ∀ {ys' : List Value} {ep' : Nat} {h₅ : Heap} {tk₅ : Nat} {mc₅ : Str → Option Value} {nx₅ : List (Addr × Obj)}, Fr h₀ C h₅ mc₅ → News h₀ C h₅ ((D, W.listOf ys'.toArray ep') :: (env.locals, oL) :: (ownOf h₀ [I, l] h₂ ++ nx₅)) → (∀ p ∈ nx₅, p.1 ≠ D ∧ p.1 ≠ env.locals ∧ p.1 ≠ I) → J (i + 1) ys' nx₅ → ys'.length ≤ i + 1 →
          ∃ m, m < vs.length + 1 - i ∧ ∃ h tk mc ys nx ep i, ({ s with heap := h₅, toks := tk₅ } : Shared) = { s with heap := h, toks := tk } ∧ h.IsListIter I l i ∧ h.IsList l vs.toArray ∧ Fr h₀ C h mc ∧ News h₀ C h ((D, W.listOf ys.toArray ep) :: (env.locals, oL) :: nx) ∧ (∀ p ∈ nx, p.1 ≠ D ∧ p.1 ≠ env.locals ∧ p.1 ≠ I) ∧ J i ys nx ∧ ys.length ≤ i ∧ i ≤ vs.length ∧ m = vs.length + 1 - i := by
        intro ys' ep' h₅ tk₅ mc₅ nx₅ F₅ N₅ ho₅ hJ₅ hy₅
        have N₅' : News h₀ C h₅ (ownOf h₀ [I, l] h₂ ++ ((D, W.listOf ys'.toArray ep') :: (env.locals, oL) :: nx₅)) := KStt.news_of N₅ fun p hp => by
          simp only [List.mem_cons, List.mem_append] at hp ⊢
          rcases hp with h | h | h | h
          · exact .inr (.inr (.inl h))
          · exact .inl h
          · exact .inr (.inl h)
          · exact .inr (.inr (.inr h))
        exact ⟨vs.length + 1 - (i + 1), by walk_at "OM", h₅, tk₅, mc₅, ys', nx₅, ep', i + 1, rfl, hit₂.at fun o e => keepO F₅ N₅' I (by simp) o e, hl₂.at fun o e => keepO F₅ N₅' l (by simp) o e, F₅, N₅'.right, ho₅, hJ₅, hy₅, hlt', rfl⟩
      refine wpAny_mono (turn C D I i v ys nx ep oL h₃ tk₃ mc₃ (ownOf h₀ [I, l] h₂) hv hJ' hB hyl hown (let ⟨oI, hoI, _⟩ := hit₂; ⟨oI, mem_ownOf (by simp) (fresh I (Nat.le_refl _)) hoI⟩) ho' F₃ N₃') (fun ok s₃ q₃ => ?_) fun _ _ x => x
      cases ok with
      | false =>
        simp only [Bool.false_eq_true, if_false] at q₃ ⊢
        obtain ⟨h₅, tk₅, mc₅, nx₅, rfl, F₅, N₅, ho₅, hJ₅⟩ := q₃
        exact fin F₅ N₅ ho₅ hJ₅ (by walk_at "OM")
      | true =>
        simp only [if_true] at q₃ ⊢
        refine wpAny_mono q₃ (fun y s₄ q₄ => ?_) fun _ _ x => x
        obtain ⟨h₅, tk₅, mc₅, nx₅, rfl, F₅, N₅, ho₅, hJ₅⟩ := q₄
        refine append_K F₅ N₅ (.head (hoff nx₅ ho₅)) (fun h₆ F₆ N₆ => ?_) (by rw [List.size_toArray, sizeLine_eq]; walk_at "OM")
        rw [List.push_toArray] at N₆
        exact fin F₆ N₆ ho₅ hJ₅ (by rw [List.length_append, List.length_singleton]; walk_at "OM")
    · have hin : i = vs.length := by walk_at "OM"
      subst hin
      refine wpAny_pyNext_list_end hh hit' hl' (by simp) fun h₂ he₂ => ?_
      obtain ⟨F₂, N₂⟩ := next h₂ fun b o hb e => he₂ b o hb e
      have gL : h₂.get? env.locals = some oL := (N₂ _ (.tail _ (.head _))).1
      refine done D C ys nx ep h₂ tk mc hJ' (fun p hp => ⟨(ho' p hp).1, (N₂ p (.tail _ (.tail _ hp))).2.1⟩) (by walk_at "OM") (by walk_at "OM") (by walk_at "OM") (fresh C (by walk_at "OM")) (fun p hp => by have := ltN (Heap.lt_size (N p hp).1); walk_at "OM")
        ⟨⟨oL, esL, epL, gL, hLd, hLk, hLf⟩, F₂.keep, hab⟩ ?_ F₂.ns
      intro p hp
      rcases List.mem_cons.mp hp with rfl | hp
      · exact ⟨(N₂ _ (.head _)).1, by show D ≠ env.locals; walk_at "OM", (N₂ _ (.head _)).2.2⟩
      · exact ⟨(N₂ _ (.tail _ (.tail _ hp))).1, (ho' p hp).2.1, (N₂ _ (.tail _ (.tail _ hp))).2.2⟩
  exact codeAny_compStart_list (loop _ rfl) (wpAny_pyIter_listiter ⟨_, g3 _ _ (g2 _ _ gI), rfl, rfl⟩ (loop _ rfl))

theorem post_none {D C : Addr} {m mc : Str → Option Value} {nn : List (Addr × Obj)} {h : Heap} {tk : Nat} {Q : Value → Shared → Prop} (F : Fr h₀ env.locals h m) (N : News h₀ env.locals h nn) (hC : h.Ns C mc) (hCL : C ≠ env.locals) (hC0 : h₀.get? C = none)
    (hnC : ∀ p ∈ nn, p.1 ≠ C) (hQ : ∀ h', Fr h₀ env.locals h' m → News h₀ env.locals h' nn → Q (.ref D) { s with heap := h', toks := tk }) :
    compPost (model prog w) A E none Q (.ref D) C (.ok .next) { s with heap := h, toks := tk } := by
  refine ⟨mc, hC, fun h' hs => ?_⟩
  have up : ∀ b o, b ≠ C → h.get? b = some o → h'.get? b = some o := fun b o hb e => hs.extBut b o hb e
  exact hQ h' ⟨F.ns.at' fun o e => up _ o (Ne.symm hCL) e, fun b o e => up b o (fun q => by rw [q, hC0] at e; cases e) (F.keep b o e), F.above⟩ fun p hp => ⟨up _ _ (hnC p hp) (N p hp).1, (N p hp).2⟩
theorem post_some {D C : Addr} {m mc : Str → Option Value} {nn : List (Addr × Obj)} {h : Heap} {tk : Nat} {y : Str} {py : Pos} {Q : Shared → Prop} (hy : env.kindOf y = some .local)
    (hp : (env.scope.kind == .class || (env.scope.kind == .module && env.locals != env.globals)) = false)
    (F : Fr h₀ env.locals h m) (N : News h₀ env.locals h nn) (hC : h.Ns C mc) (hCL : C ≠ env.locals) (hC0 : h₀.get? C = none)
    (hnC : ∀ p ∈ nn, p.1 ≠ C) (hQ : ∀ h' tk, Fr h₀ env.locals h' (fun z => if z = y then some (.ref D) else m z) → News h₀ env.locals h' nn → Q { s with heap := h', toks := tk }) :
    compPost (model prog w) A E (some (assign (.Name y py) env)) (fun _ s' => Q s') (.ref D) C (.ok .next) { s with heap := h, toks := tk } := by
  show wpAny _ A (assign (.Name y py) env (.ref D)) _ _ _
  refine wpAny_assign_Name (wpAny_storeName_local hy F.ns (fun h₂ hn₂ hs₂ => ?_) hp)
  refine ⟨mc, hC.sameBut hs₂ hCL, fun h' hs => ?_⟩
  have up : ∀ b o, b ≠ C → h₂.get? b = some o → h'.get? b = some o := fun b o hb e => hs.extBut b o hb e
  have F2 := F.set hn₂ hs₂
  have N2 := N.set hs₂
  exact hQ h' _ ⟨F2.ns.at' fun o e => up _ o (Ne.symm hCL) e, fun b o e => up b o (fun q => by rw [q, hC0] at e; cases e) (F2.keep b o e), F2.above⟩ fun p hp => ⟨up _ _ (hnC p hp) (N2 p hp).1, (N2 p hp).2⟩
theorem Assign_comp {elt target iter : PySem.Expr} {ifs : List PySem.Expr} {scope : Scope} {cl : List (Str × Addr)} {pos spos py : Pos} {y : Str} {Q : Flow → Shared → Prop}
    (hsw : swapsWith (.ListComp elt [⟨target, iter, ifs, 0⟩] scope pos) (some (.Name y py)) spos.line env = pure true)
    (hclos : closureFor scope env = pure cl) (hkind : scope.kind = .function) (hnames : ∀ x ∈ scope.names, x.2 = .local → scope.names.lookup x.1 = some .local)
    (h : wpAny (model prog w) A (eval iter env) (fun x s₁ => wpAny (model prog w) A (pyIter x) (fun it s₂ => wpAny (model prog w) A (newList []) (fun acc s₃ =>
      wpAny (model prog w) A (newFunctionEnv scope env.globals cl [] env.qual none .none (some env)) (fun cenv s₄ =>
        codeAny (model prog w) A (.compStart (.ListComp elt [⟨target, iter, ifs, 0⟩] scope pos) 0 it acc { cenv with scope := relabel scope env }) (compPost (model prog w) A E (some (assign (.Name y py) env)) (fun _ s' => Q .next s') acc cenv.locals) s₄) E s₃) E s₂) E s₁) E s)
    (hs : ∀ x, foldedSetIterable iter env x = pure x := by intro _; rfl) :
    wpAny (model prog w) A (exec (.Assign [.Name y py] (.ListComp elt [⟨target, iter, ifs, 0⟩] scope pos) spos) env) Q E s := by
  rw [exec_Assign_Name_used _ _ _ _ hsw]
  refine wpAny_bind (wpAny_standAt (wpAny_bind ?_))
  show wpAny _ A (do let _ ← comprehension (.ListComp elt [⟨target, iter, ifs, 0⟩] scope pos) scope env _ (newList []) false (eval iter env) (some (assign (.Name y py) env))) _ _ s
  exact wpAny_bind (wpAny_mono (wpAny_comprehension_free (use := some (assign (.Name y py) env)) (Q := fun _ s' => Q .next s') rfl hs hclos hkind hnames h) (fun _ s' hq => wpAny_pure (wpAny_pure hq)) fun _ _ e => e)
theorem eval_comp {elt target iter : PySem.Expr} {ifs : List PySem.Expr} {scope : Scope} {cl : List (Str × Addr)} {pos : Pos} {Q : Value → Shared → Prop}
    (hclos : closureFor scope env = pure cl) (hkind : scope.kind = .function) (hnames : ∀ x ∈ scope.names, x.2 = .local → scope.names.lookup x.1 = some .local)
    (h : wpAny (model prog w) A (eval iter env) (fun x s₁ => wpAny (model prog w) A (pyIter x) (fun it s₂ => wpAny (model prog w) A (newList []) (fun acc s₃ =>
      wpAny (model prog w) A (newFunctionEnv scope env.globals cl [] env.qual none .none (some env)) (fun cenv s₄ =>
        codeAny (model prog w) A (.compStart (.ListComp elt [⟨target, iter, ifs, 0⟩] scope pos) 0 it acc { cenv with scope := relabel scope env }) (compPost (model prog w) A E none Q acc cenv.locals) s₄) E s₃) E s₂) E s₁) E s)
    (hs : ∀ x, foldedSetIterable iter env x = pure x := by intro _; rfl) :
    wpAny (model prog w) A (eval (.ListComp elt [⟨target, iter, ifs, 0⟩] scope pos) env) Q E s := by
  rw [eval_ListComp]
  exact wpAny_comprehension_free (use := none) rfl hs hclos hkind hnames h

/-- the usual target of a comprehension: one name -/
theorem go_name {scope : Scope} {cl : List (Str × Addr)} {x : Str} {px : Pos} {l C I : Addr} {i : Nat} {v : Value} {h : Heap} {tk : Nat} {mc : Str → Option Value} {nx : List (Addr × Obj)} {B : (Str → Option Value) → Prop}
    (hkind : scope.kind = .function) (hx : scope.names.lookup x = some .local) (F : Fr h₀ C h mc) (N : News h₀ C h nx) (hB : ∀ mc', mc' x = some v → B mc') :
      wpAny (model prog w) A (letOwnedTupleGo (.Name x px) (.ref I) v) (fun _ s₁ => wpAny (model prog w) A (assign (.Name x px) (compEnvC scope cl C env) v) (fun _ s₂ =>
        ∃ h' tk' mc', s₂ = { s with heap := h', toks := tk' } ∧ Fr h₀ C h' mc' ∧ News h₀ C h' nx ∧ B mc') (fun _ _ => False) s₁) (fun _ _ => False) { s with heap := h, toks := tk } := by
  refine wpAny_pure ?_
  refine wpAny_assign_Name (wpAny_storeName_local (env := compEnvC scope cl C env) (lookup_relabel_local hx) F.ns (fun h₂ hn₂ hs₂ => ?_) (by simp [compEnvC, relabel, hkind]))
  exact ⟨h₂, _, _, rfl, F.set hn₂ hs₂, N.set hs₂, hB _ (by simp)⟩
end
end Mine
end
section
open PySem PySem.W PyProof.Rows PySem.Calls
set_option maxRecDepth 100000
set_option maxHeartbeats 2000000
namespace Mine
theorem callMc {prog : Program} {w : World} {A : Around} {s : Shared} {h₀ : Heap} {L : Addr} {m : Str → Option Value} {news : List (Addr × Obj)}
    {R : Result → Shared → Prop} {name qual : Str} {params : Arguments} {body : List Stmt} {scope : Scope} {dV kV doc pm cdv ct oc : Value} {an od : Option Addr} {osl : Array (Option Value)} {f : Addr} {args : Args} {binds : List (Str × Value)}
    (C : Cx w h₀) (F : Fr h₀ L s.heap m) (N : News h₀ L s.heap news)
    (ho : (hd.heap_39 w.params).lookup f = some ⟨oc, od, .func (fnOf name qual params body scope dV kV doc pm an cdv ct), osl⟩) (hcd : codeIn (hd.heap_39 w.params) cdv qual = true) (hroom : A.depth < recursionLimit)
    (hbind : BindsTo s (fnOf name qual params body scope dV kV doc pm an cdv ct) args binds)
    (hkind : (binds.all fun y => scope.names.lookup y.1 == some .local || scope.names.lookup y.1 == some .cell) = true)
    (hnd : ((cellsFrom 0 scope.names []).map (·.1)).Nodup)
    (h : ∀ g L' h₁ tk cells, Cx w g → Fr g L' h₁ (bindL (envOfC qual scope L' f cdv).kindOf binds fun _ => none) → News g L' h₁ (cells ++ news) →
      CellsAre (bindC (envOfC qual scope L' f cdv).kindOf binds fun _ => none) (cellsFrom (L' + 1) scope.names []) cells → (∀ p ∈ news, p.1 < L') →
      wpAny (model prog w) (A.deeper (envOfC qual scope L' f cdv)) (execs body (envOfC qual scope L' f cdv))
        (fun fl s' => LeaveK h₀ L m g R (match fl with | .ret v => v | _ => .none) s')
        (fun _ _ => False)
        { s with heap := h₁, toks := tk })
    (hco : scope.isCoroutine = false := by rfl) (hgen : scope.isGenerator = false := by rfl) (hk : scope.kind = .function := by rfl) : codeAny (model prog w) A (.call (.ref f) args) R s := by
  have X := C.X.keeps F.keep
  have nm : ∀ b o, h₀.get? b = some o → b ∉ news.map (·.1) := fun b o e q => by
    obtain ⟨p, hp, rfl⟩ := List.mem_map.mp q
    rw [(N p hp).2.2] at e; cases e
  have st : h₀.StaysIn (hideAll s.heap (news.map (·.1))) := fun b o e => hideAll_get _ (F.keep b o e) (nm b o e)
  obtain ⟨oL, es, ep, hL, hLd, hLk, hLf⟩ := F.ns
  have nL : L ∉ news.map (·.1) := fun q => by
    obtain ⟨p, hp, e⟩ := List.mem_map.mp q
    exact (N p hp).2.1 e
  have hLg := hideAll_get (news.map (·.1)) hL nL
  refine codeAny_call_function (fd := fnOf name qual params body scope dV kV doc pm an cdv ct) (body := body) hroom (X _ _ ho) rfl hco hgen rfl (codeRec_of X hcd) (hbind _ _ _ _ ?_)
  refine wpAny_newFunctionEnv_cells hk (kindsX hkind _) fun env' he s' x => ?_
  subst he
  refine ⟨(C.nolimit.keeps F.keep).keeps x.toInCall.keep, codeAny_func ?_⟩
  obtain ⟨h₁, tk, rfl, _⟩ := x.done
  have hk₁ := x.toInCall.keep
  obtain ⟨cells, NC, Y⟩ := Cl.news (h₀ := s.heap) (Nat.le_refl _) fun n c hm => ⟨x.cell n c (lookup_of_mem_nodup (cellsFrom_names scope.names 0 (s.heap.objs.size + 1) [] [] rfl ▸ hnd) hm), x.above n c hm⟩
  refine wpAny_mono (h _ s.heap.objs.size h₁ tk cells (C.keeps st) ⟨x.toInCall.ns, fun b o e => hk₁ b o (of_hideAll _ e), Nat.le_of_eq (hideAll_size _ _)⟩ (fun p hp => ?_) Y (fun p hp => Heap.lt_size (N p hp).1)) (fun fl s' hl => ?_) fun _ _ y => y.elim
  · rcases List.mem_append.mp hp with hp | hp
    · refine ⟨(NC p hp).1, (NC p hp).2.1, ?_⟩
      cases q : (hideAll s.heap (news.map (·.1))).get? p.1 with
      | none => rfl
      | some o => have := of_hideAll _ q; rw [(NC p hp).2.2] at this; cases this
    · exact ⟨hk₁ _ _ (N p hp).1, Nat.ne_of_lt (Heap.lt_size (N p hp).1), hideAll_none _ (List.mem_map_of_mem hp)⟩
  · obtain ⟨L', m', news', F', N', k⟩ := hl
    refine k ⟨⟨oL, es, ep, F'.keep L oL hLg, hLd, hLk, hLf⟩, fun b o e => F'.keep b o (st b o e), F.above⟩ fun p hp => ⟨(N' p hp).1, fun q => ?_, ?_⟩
    · have := (N' p hp).2.2; rw [q, hLg] at this; cases this
    · cases q : h₀.get? p.1 with
      | none => rfl
      | some o => have := (N' p hp).2.2; rw [st _ _ q] at this; cases this

section
variable {prog : Program} {w : World} {A : Around} {E : Value → Shared → Prop} {s : Shared} {env : Env} {h₀ : Heap} {m : Str → Option Value} {news : List (Addr × Obj)} {x : Str} {pos : Pos} {v : Value} {Q : Value → Shared → Prop}
theorem nmL (F : Fr h₀ env.locals s.heap m) (hv : m x = some v) (h : Q v s) (hk : env.scope.kind = .function) (hx : env.kindOf x = some .local) (hd : (x == ("__debug__" : Str)) = false) :
    wpAny (model prog w) A (eval (.Name x pos) env) Q E s := wpAny_Name (wpAny_loadName_local hk hx F.ns hv h) hd
theorem nmC {L c : Addr} {o : Obj} (N : News h₀ L s.heap news) (hc : env.cells.lookup x = some c) (hm : (c, o) ∈ news) (hd : o.data = .cell (some v)) (h : Q v s)
    (hk : env.scope.kind = .function) (hx : env.kindOf x = some .cell) (hb : (x == ("__debug__" : Str)) = false) :
    wpAny (model prog w) A (eval (.Name x pos) env) Q E s := wpAny_Name (wpAny_loadName_cell hk hx hc ⟨o, N.get hm, hd⟩ h) hb
theorem nmG {L : Addr} (C : Cx w h₀) (F : Fr h₀ L s.heap m) (e : nsIn (hd.heap_39 w.params) mainGlobals x = some (some v)) (h : Q v s) (hg : env.globals = mainGlobals) (hk : env.scope.kind = .function) (hx : env.kindOf x = some .globalImplicit) (hd : (x == ("__debug__" : Str)) = false) :
    wpAny (model prog w) A (eval (.Name x pos) env) Q E s := by
  obtain ⟨mg, mb, T⟩ := C.T
  exact Name_function_global hk hx (loadGlobal_global (env := env) (by rw [hg]; exact T.g.keeps F.keep) (mg_of C.X T.g e) h) hd
theorem nmB {L : Addr} (C : Cx w h₀) (F : Fr h₀ L s.heap m) (e : nsIn (hd.heap_39 w.params) mainGlobals x = some none) (hv : bootBuiltins x = some v) (hn : x ≠ "__name__") (h : Q v s) (hg : env.globals = mainGlobals) (hb : env.builtins = builtinsNs) (hk : env.scope.kind = .function) (hx : env.kindOf x = some .globalImplicit) (hd : (x == ("__debug__" : Str)) = false) :
    wpAny (model prog w) A (eval (.Name x pos) env) Q E s := by
  obtain ⟨mg, mb, T⟩ := C.T
  exact Name_function_global hk hx (loadGlobal_builtin (env := env) (by rw [hg]; exact T.g.keeps F.keep) (mg_none_of C.X T.g e) (by rw [hb]; exact T.b.keeps F.keep) ((T.builtins x hn).trans hv) h) hd
end
end Mine
end
section
open PySem PySem.W PyProof.Rows PySem.Calls
set_option maxRecDepth 100000
set_option maxHeartbeats 2000000
namespace Mine
section
variable {prog : Program} {w : World} {A : Around} {E : Value → Shared → Prop} {s : Shared} {env : Env} {h₀ : Heap} {target : PySem.Expr} {body : List Stmt} {Q : Flow → Shared → Prop}
theorem forW {I : Addr} {fp : List Addr} {n : Nat} {P : Nat → Value → Prop} {St : Nat → Heap → Prop} {m₀ : Str → Option Value} {news : List (Addr × Obj)} (J : Nat → (Str → Option Value) → List (Addr × Obj) → Prop)
    (B : Nat → Value → (Str → Option Value) → List (Addr × Obj) → Prop)
    (W : Walks prog w A I fp [I] n P St) (hLf : env.locals ∉ fp) (hI0 : h₀.get? I = none) (hnw : ∀ p ∈ news, p.1 ≠ I) (hst : St 0 s.heap) (F : Fr h₀ env.locals s.heap m₀) (N : News h₀ env.locals s.heap news) (hJ : J 0 m₀ news)
    (hE : PassesOwn (model prog w) A env E) (hin : ∀ i h, St i h → ∃ o, h.get? I = some o)
    (hgo : ∀ i v m₁ nx h tk own, i < n → P i v → J i m₁ nx → (∀ p ∈ own, p.1 ∈ fp) → (∀ p ∈ nx, p.1 ≠ I) → Fr h₀ env.locals h m₁ → News h₀ env.locals h (own ++ nx) →
      wpAny (model prog w) A (letOwnedTupleGo target (.ref I) v) (fun _ s₁ => wpAny (model prog w) A (assign target env v) (fun _ s₂ =>
        ∃ h' tk' m' nx', s₂ = { s with heap := h', toks := tk' } ∧ Fr h₀ env.locals h' m' ∧ News h₀ env.locals h' (own ++ nx') ∧ (∀ p ∈ nx', p.1 ≠ I) ∧ B i v m' nx') (fun _ _ => False) s₁) (fun _ _ => False) { s with heap := h, toks := tk })
    (turn : ∀ i v m₁ nx h tk own, i < n → P i v → B i v m₁ nx → (∀ p ∈ own, p.1 ∈ fp) → (∃ o, (I, o) ∈ own) → (∀ p ∈ nx, p.1 ≠ I) → Fr h₀ env.locals h m₁ → News h₀ env.locals h (own ++ nx) →
      wpAny (model prog w) A (execs body env) (StepM h₀ env.locals I own (J (i + 1)) s Q) E { s with heap := h, toks := tk })
    (done : ∀ m₁ nx h tk, J n m₁ nx → (∀ p ∈ nx, p.1 ≠ I) → Fr h₀ env.locals h m₁ → News h₀ env.locals h nx → Q .next { s with heap := h, toks := tk }) :
    codeAny (model prog w) A (.forLoop target (.ref I) body [] env) (fun r s' => match r with | .ok f => Q f s' | .error e => cameBackBy (model prog w) A env E e s') s := by
  have hIL : env.locals ≠ I := fun h => hLf (W.sub _ (h ▸ List.mem_singleton.mpr rfl))
  refine codeAny_forLoop_any
    (fun k s' => ∃ h' tk m' news' i, s' = { s with heap := h', toks := tk } ∧ St i h' ∧ Fr h₀ env.locals h' m' ∧ News h₀ env.locals h' news' ∧ (∀ p ∈ news', p.1 ≠ I) ∧ J i m' news' ∧ i ≤ n ∧ k = n + 1 - i) ?_ (n + 1)
    ⟨s.heap, s.toks, m₀, news, 0, rfl, hst, F, N, hnw, hJ, Nat.zero_le _, rfl⟩
  rintro k s' ⟨H, tk, m', news', i, rfl, hst', F', N', ho', hJ', hi, rfl⟩
  have next : ∀ h₁ : Heap, (∀ b o, b ∉ [I] → H.get? b = some o → h₁.get? b = some o) → Fr h₀ env.locals h₁ m' ∧ News h₀ env.locals h₁ news' := fun h₁ hk₁ =>
    ⟨⟨F'.ns.at' fun o e => hk₁ _ o (fun q => hIL (List.mem_singleton.mp q)) e, fun b o e => hk₁ b o (fun q => by rw [List.mem_singleton.mp q, hI0] at e; cases e) (F'.keep b o e), F'.above⟩, fun p hp => ⟨hk₁ _ _ (fun q => ho' p hp (List.mem_singleton.mp q)) (N' p hp).1, (N' p hp).2⟩⟩
  by_cases hlt : i < n
  · refine W.item i _ _ _ hlt hst' fun v h₁ tk₁ hP hst₁ hk₁ => ?_
    obtain ⟨F₁, N₁⟩ := next h₁ hk₁
    have No : News h₀ env.locals h₁ (ownOf h₀ fp h₁ ++ news') := (news_ownOf hLf).append N₁
    have keepO : ∀ {h₃ : Heap} {mc' : Str → Option Value} {rest : List (Addr × Obj)}, Fr h₀ env.locals h₃ mc' → News h₀ env.locals h₃ (ownOf h₀ fp h₁ ++ rest) → ∀ b ∈ fp, ∀ o, h₁.get? b = some o → h₃.get? b = some o := fun F₃ N₃ b hb o e => by
      cases hn : h₀.get? b with
      | some o₀ =>
        have : o₀ = o := by have q := F₁.keep b o₀ hn; rw [e] at q; exact (Option.some.inj q).symm
        exact this ▸ F₃.keep b o₀ hn
      | none => exact (N₃ _ (List.mem_append_left _ (mem_ownOf hb hn e))).1
    have never : ∀ e s', (fun (_ : Value) (_ : Shared) => False) e s' → notedBy (model prog w) A env (fun e s' => cameBackBy (model prog w) A env E e s') e s' := fun _ _ h => h.elim
    refine wpAny_mono (hgo i v m' news' h₁ tk₁ _ hlt hP hJ' ownOf_sub ho' F₁ No) (fun _ s₁ q => wpAny_mono q (fun _ s₂ q₂ => ?_) never) never
    obtain ⟨h₂, tk₂, m₂, nx₂, rfl, F₂, N₂, ho₂, hB⟩ := q₂
    refine wpAny_mono (wpAny_passesOwn hE (turn i v m₂ nx₂ h₂ tk₂ _ hlt hP hB ownOf_sub (let ⟨oI, hoI⟩ := hin _ _ hst₁; ⟨oI, mem_ownOf (W.sub _ (List.mem_singleton.mpr rfl)) hI0 hoI⟩) ho₂ F₂ N₂)) (fun f s₃ h₆ => ?_) fun _ _ e => e
    have fin : (∃ h' tk m' news₂, s₃ = { s with heap := h', toks := tk } ∧ Fr h₀ env.locals h' m' ∧ News h₀ env.locals h' (ownOf h₀ fp h₁ ++ news₂) ∧ (∀ p ∈ news₂, p.1 ≠ I) ∧ J (i + 1) m' news₂) →
        ∃ m, m < n + 1 - i ∧ ∃ h' tk m' news' i, s₃ = { s with heap := h', toks := tk } ∧ St i h' ∧ Fr h₀ env.locals h' m' ∧ News h₀ env.locals h' news' ∧ (∀ p ∈ news', p.1 ≠ I) ∧ J i m' news' ∧ i ≤ n ∧ m = n + 1 - i := by
      rintro ⟨h', tk', m₃, news₃, rfl, F₆, N₆, ho₆, hJ₆⟩
      exact ⟨n + 1 - (i + 1), by omega, h', tk', m₃, news₃, i + 1, rfl, W.frame _ _ _ hst₁ fun b hb o e => keepO F₆ N₆ b hb o e, F₆, N₆.right, ho₆, hJ₆, hlt, rfl⟩
    cases f with
    | ret v => exact h₆
    | brk => exact h₆
    | cont => exact fin h₆
    | next => exact fin h₆
  · have hin : i = n := by omega
    subst hin
    refine W.done _ _ _ hst' fun h₁ tk₁ hk₁ => wpAny_execs_nil ?_
    obtain ⟨F₁, N₁⟩ := next h₁ hk₁
    exact done m' news' h₁ tk₁ hJ' ho' F₁ N₁
end
end Mine
end
section
open PySem PySem.W PyProof.Rows PySem.Calls
set_option maxRecDepth 100000
set_option maxHeartbeats 2000000
namespace Mine
section
variable {prog : Program} {w : World} {A : Around} {E : Value → Shared → Prop} {s : Shared} {env : Env} {h₀ : Heap} {target : PySem.Expr} {body : List Stmt} {Q : Flow → Shared → Prop}
theorem iter_strM {x : Str} {t : Tok} {n : Nat} {m₀ : Str → Option Value} {news : List (Addr × Obj)} (J : Nat → (Str → Option Value) → List (Addr × Obj) → Prop)
    (B : Nat → Value → (Str → Option Value) → List (Addr × Obj) → Prop)
    (hh : A.handled = none) (ha : x.cps.all (· < 128) = true) (hn : x.cps.size = n) (F : Fr h₀ env.locals s.heap m₀) (N : News h₀ env.locals s.heap news) (hJ : J 0 m₀ news)
    (hE : PassesOwn (model prog w) A env E)
    (hgo : ∀ I i v m₁ nx h tk own, i < n → SignAt x i v → J i m₁ nx → (∀ p ∈ own, p.1 = I) → (∀ p ∈ nx, p.1 ≠ I) → Fr h₀ env.locals h m₁ → News h₀ env.locals h (own ++ nx) →
      wpAny (model prog w) A (letOwnedTupleGo target (.ref I) v) (fun _ s₁ => wpAny (model prog w) A (assign target env v) (fun _ s₂ =>
        ∃ h' tk' m' nx', s₂ = { s with heap := h', toks := tk' } ∧ Fr h₀ env.locals h' m' ∧ News h₀ env.locals h' (own ++ nx') ∧ (∀ p ∈ nx', p.1 ≠ I) ∧ B i v m' nx') (fun _ _ => False) s₁) (fun _ _ => False) { s with heap := h, toks := tk })
    (turn : ∀ I i v m₁ nx h tk own, i < n → SignAt x i v → B i v m₁ nx → (∀ p ∈ own, p.1 = I) → (∃ o, (I, o) ∈ own) → (∀ p ∈ nx, p.1 ≠ I) → Fr h₀ env.locals h m₁ → News h₀ env.locals h (own ++ nx) →
      wpAny (model prog w) A (execs body env) (StepM h₀ env.locals I own (J (i + 1)) s Q) E { s with heap := h, toks := tk })
    (done : ∀ m₁ nx h tk, J n m₁ nx → Fr h₀ env.locals h m₁ → News h₀ env.locals h nx → Q .next { s with heap := h, toks := tk }) :
    wpAny (model prog w) A (pyIter (.str x t)) (fun it s₂ => codeAny (model prog w) A (.forLoop target it body [] env) (fun r s' => match r with | .ok f => Q f s' | .error e => cameBackBy (model prog w) A env E e s') s₂) E s := by
  refine wpAny_pyIter_ascii ha ?_
  have Wk := Walks.strAscii (prog := prog) (w := w) hh s.heap.objs.size x t
  rw [hn] at Wk
  have hIL : env.locals ≠ s.heap.objs.size := Nat.ne_of_lt F.ns.lt
  exact forW J B Wk (fun q => hIL (List.mem_singleton.mp q)) (next_is_new F) (fun p hp => Nat.ne_of_lt (Heap.lt_size (N p hp).1)) ⟨_, Heap.get?_push_size _ rfl, rfl, rfl⟩ (F.push _) (fun p hp => ⟨Heap.get?_push_of_some _ (N p hp).1, (N p hp).2⟩) hJ hE (fun i h ⟨o, ho, _⟩ => ⟨o, ho⟩)
    (fun i v m₁ nx h tk own hi hv hj ho hne F N => hgo _ i v m₁ nx h tk own hi hv hj (fun p hp => List.mem_singleton.mp (ho p hp)) hne F N)
    (fun i v m₁ nx h tk own hi hv hj ho hoI hne F N => turn _ i v m₁ nx h tk own hi hv hj (fun p hp => List.mem_singleton.mp (ho p hp)) hoI hne F N)
    (fun m₁ nx h tk hj _ F N => done m₁ nx h tk hj F N)
end
end Mine
end
section
open PySem PySem.W PyProof.Rows PySem.Calls
set_option maxRecDepth 100000
set_option maxHeartbeats 2000000
namespace Mine
def minTo (ds : List DT) : Nat → DT
  | 0 => ds.getD 0 dd
  | k + 1 => if ltD (ds.getD (k + 1) dd) (minTo ds k) then ds.getD (k + 1) dd else minTo ds k
def minD (ds : List DT) : DT := minTo ds (ds.length - 1)
def Kp (T : List (Addr × Obj)) (h : Heap) : Prop := ∀ p ∈ T, h.get? p.1 = some p.2
section
variable {prog : Program} {w : World} {A : Around} {R : Result → Shared → Prop} {I l S : Addr} {T₀ : List (Addr × Obj)} {vs : List Value} {ds : List DT}
theorem rich_lt_IT {E : Value → Shared → Prop} {s : Shared} {v u : Value} {d e : DT} {Q : Value → Shared → Prop} (hu : A.units < cLine) (hK : Kp T₀ s.heap) (hv : IT T₀ v d) (hw : IT T₀ u e) (h : Q (.bool (ltD d e)) s) :
    wpAny (model prog w) A (richCompare .Lt v u) Q E s := by
  obtain ⟨a, t1, t2, n, rfl, hm⟩ := hv
  obtain ⟨b, u1, u2, k, rfl, hm2⟩ := hw
  exact cmp_toLt (lt_tup hu (hK _ hm) (hK _ hm2) h)

theorem minLoopM (hh : A.handled = none) (hu : A.in1.units < cLine) (hlI : l ≠ I) (hSI : S ≠ I) (hSl : S ≠ l) (hT : ∀ p ∈ T₀, p.1 ≠ I ∧ p.1 ≠ S) (hv : ITs T₀ vs ds) :
    ∀ (k j : Nat) (s : Shared) (vb : Value) (c : Nat), ds.length - (j + 1) = k → j + 1 ≤ ds.length → (s.heap.IsListIter I l (j + 1) ∧ s.heap.IsList l vs.toArray) → Kp T₀ s.heap → IT T₀ vb (minTo ds j) →
    s.heap.get? S = some { cls := .type "list", dict := none, data := .seq #[vb, vb] c, slots := #[] } →
    (∀ v h' tk, IT T₀ v (minD ds) → (∀ b o, b ≠ I → b ≠ S → s.heap.get? b = some o → h'.get? b = some o) → R (.ok (.ret v)) { s with heap := h', toks := tk }) →
    codeAny (model prog w) A (.builtin "min.loop" ⟨[.ref I, .none, .ref S], []⟩) R s := by
  have W := Walks.list (prog := prog) (w := w) (A := A.in1) hh I l hlI vs.toArray
  have hvl := hv.len
  have hsz : vs.toArray.size = ds.length := by simp [hvl]
  rw [hsz] at W
  have hname : (toString "min" ++ toString ".loop" : String) = "min.loop" := by decide
  intro k
  induction k with
  | zero =>
    intro j s vb c hk hj hst hK hPb hS hR
    have hin : j + 1 = ds.length := by omega
    refine codeAny_builtin F.entry_min_loop ?_
    rw [Around.under_plainId F.plain_min_loop _]
    show wpAny _ A.in1 (seqItems? (.ref S) >>= _) _ _ s
    refine wpAny_bind (wpAny_seqItems hS rfl ?_)
    show wpAny _ A.in1 (tryCatch (pyNext (.ref I)) _ >>= _) _ _ s
    refine wpAny_bind (wpAny_tryCatch (W.done s _ _ (hin ▸ hst) fun h' tk hk' => ?_))
    have hS' := hk' S _ (fun q => hSI (List.mem_singleton.mp q)) hS
    show wpAny _ A.in1 (updateSeq S (fun _ => #[]) >>= _) _ _ _
    refine wpAny_bind ?_
    refine wpAny_updateSeq hS' rfl (wpAny_bind (wpAny_letGo (wpAny_pure ?_)))
    refine hR vb _ tk (by unfold minD; rw [← hin]; exact hPb) fun b o hbw hbS e => (Heap.get?_update_other _ _ (Ne.symm hbS)).trans (hk' b o (fun q => hbw (List.mem_singleton.mp q)) e)
  | succ k ih =>
    intro j s vb c hk hj hst hK hPb hS hR
    have hlt : j + 1 < ds.length := by omega
    refine codeAny_builtin F.entry_min_loop ?_
    rw [Around.under_plainId F.plain_min_loop _]
    show wpAny _ A.in1 (seqItems? (.ref S) >>= _) _ _ s
    refine wpAny_bind (wpAny_seqItems hS rfl ?_)
    show wpAny _ A.in1 (tryCatch (pyNext (.ref I)) _ >>= _) _ _ s
    refine wpAny_bind (wpAny_tryCatch (W.item (j + 1) s _ _ hlt hst fun v h' tk hP hst' hk' => ?_))
    have hS' := hk' S _ (fun q => hSI (List.mem_singleton.mp q)) hS
    have hK' : Kp T₀ h' := fun p hp => hk' _ _ (fun q => (hT p hp).1 (List.mem_singleton.mp q)) (hK p hp)
    obtain ⟨v', hv', hIT⟩ := hv.get (i := j + 1) hlt
    have : v' = v := by
      have h3 : vs[j + 1]? = some v := by simpa using hP
      rw [hv'] at h3; exact Option.some.inj h3
    subst this
    show wpAny _ A.in1 (tryCatch (holding [v', v'] (richCompare .Lt v' vb >>= _)) _ >>= _) _ _ _
    refine wpAny_bind (wpAny_tryCatch (wpAny_holding (wpAny_bind (rich_lt_IT hu hK' hIT hPb ?_))))
    refine wpAny_bind (wpAny_holding (wpAny_truthy_bool ?_))
    refine wpAny_bind (wpAny_letGo (wpAny_pure ?_))
    cases hb : ltD (ds.getD (j + 1) dd) (minTo ds j) with
    | true =>
      simp only [if_true]
      refine wpAny_bind ?_
      refine wpAny_updateSeq hS' rfl (wpAny_bind (wpAny_letGo ?_))
      rw [hname]
      refine wpAny_pure ⟨plainId_quiet F.plain_min_loop _, ih (j + 1) _ v' _ (by omega) hlt (W.frame _ _ _ hst' fun b hbf o e => ?_) (fun p hp => ?_) (by rw [minTo, hb, if_pos rfl]; exact hIT) (Heap.get?_update_self _ hS' rfl)
        fun v' h'' tk'' hP' hk'' => ?_⟩
      · refine (Heap.get?_update_other _ _ (fun h : S = b => ?_)).trans e
        subst h
        rcases List.mem_cons.mp hbf with q | q
        · exact hSI q
        · exact hSl (List.mem_singleton.mp q)
      · exact (Heap.get?_update_other _ _ (Ne.symm (hT p hp).2)).trans (hK' p hp)
      · exact hR v' h'' tk'' hP' fun b o hbw hbS e => hk'' b o hbw hbS ((Heap.get?_update_other _ _ (Ne.symm hbS)).trans (hk' b o (fun q => hbw (List.mem_singleton.mp q)) e))
    | false =>
      simp only [Bool.false_eq_true, if_false]
      refine wpAny_bind (wpAny_letGo ?_)
      rw [hname]
      refine wpAny_pure ⟨plainId_quiet F.plain_min_loop _, ih (j + 1) _ vb c (by omega) hlt hst' hK' (by rw [minTo, hb, if_neg Bool.false_ne_true]; exact hPb) hS' fun v' h'' tk'' hP' hk'' => ?_⟩
      exact hR v' h'' tk'' hP' fun b o hbw hbS e => hk'' b o hbw hbS (hk' b o (fun q => hbw (List.mem_singleton.mp q)) e)

theorem min_M {E : Value → Shared → Prop} {s : Shared} {h₀ : Heap} {L : Addr} {m : Str → Option Value} {news : List (Addr × Obj)} {n : Nat} {Q : Value → Shared → Prop} (hh : A.handled = none) (hu : A.in1.units < cLine)
    (F : Fr h₀ L s.heap m) (N : News h₀ L s.heap news) (hl : (l, W.listOf vs.toArray n) ∈ news) (hs : Sub T₀ news) (hv : ITs T₀ vs ds) (hne : 0 < ds.length)
    (h : ∀ a t1 t2 c h' tk, (a, tO (.int (minD ds).1 t1) (.str (ofL (minD ds).2) t2) c) ∈ T₀ → Fr h₀ L h' m → News h₀ L h' news → Q (.ref a) { s with heap := h', toks := tk }) :
    wpAny (model prog w) A (call (.builtin "min") [.ref l]) Q E s := by
  have hname : (toString "min" ++ toString ".loop" : String) = "min.loop" := by decide
  refine call_function_tree PySem.F.kind_min PySem.F.plain_min PySem.F.entry_min (PySem.F.args_min1 _) ?_
  show wpAny _ A.in1 (Builtin.Builtins.bindParams "min" ["key", "default"] 0 ⟨[], []⟩ >>= _) _ _ s
  refine wpAny_bind (wpAny_of_eq (show Builtin.Builtins.bindParams "min" ["key", "default"] 0 ⟨[], []⟩ = pure [none, none] from rfl) ?_)
  refine wpAny_bind (wpAny_pure ?_)
  have hL := News.isList N hl
  have hlt := ltN (Heap.lt_size (N _ hl).1)
  refine wpAny_bind (wpAny_pyIter_list hL ?_)
  refine wpAny_bind (wpAny_newObj_type ?_)
  rw [hname]
  dsimp only at hlt ⊢
  generalize hH1 : s.heap.push _ = H1
  have gI : H1.get? s.heap.objs.size = some { cls := .type "list_iterator", data := .fields #[.ref l, .int 0 0] } := hH1 ▸ Heap.get?_push_size _ rfl
  have hs1 : H1.objs.size = s.heap.objs.size + 1 := by rw [← hH1, Heap.size_push]
  have g1 : ∀ b o, s.heap.get? b = some o → H1.get? b = some o := fun b o e => hH1 ▸ Heap.get?_push_of_some _ e
  generalize hH2 : H1.push _ = H2
  have gD : H2.get? H1.objs.size = some ({ cls := .type "list", dict := none, data := .seq #[] 0, slots := #[] }) := hH2 ▸ Heap.get?_push_size _ rfl
  have g2 : ∀ b o, H1.get? b = some o → H2.get? b = some o := fun b o e => hH2 ▸ Heap.get?_push_of_some _ e
  have lt1 : ∀ p ∈ news, p.1 < s.heap.objs.size := fun p hp => Heap.lt_size (N p hp).1
  have F2 : Fr h₀ L H2 m := by rw [← hH2, ← hH1]; exact (F.push _).push _
  have N2 : News h₀ L H2 news := fun p hp => ⟨g2 _ _ (g1 _ _ (N p hp).1), (N p hp).2⟩
  have hL2 : H2.IsList l vs.toArray := hL.at fun o e => g2 _ _ (g1 _ _ e)
  have gI2 := g2 _ _ gI
  have hIL : L ≠ s.heap.objs.size := Nat.ne_of_lt F.ns.lt
  have hSL : L ≠ H1.objs.size := Nat.ne_of_lt (by rw [hs1]; exact Nat.lt_succ_of_lt F.ns.lt)
  have hI0 : h₀.get? s.heap.objs.size = none := next_is_new F
  have hS0 : h₀.get? H1.objs.size = none := by rw [hs1]; cases e : h₀.get? (s.heap.objs.size + 1) with
    | none => rfl
    | some o => exact absurd (Heap.lt_size (F.keep _ o e)) (by simp)
  generalize hI : s.heap.objs.size = I at *
  generalize hS : H1.objs.size = S at *
  have hlI : l ≠ I := neN (by omega)
  have hSI : S ≠ I := neN (by omega)
  have hSl : S ≠ l := neN (by omega)
  have hTn : ∀ p ∈ news, p.1 ≠ I ∧ p.1 ≠ S := fun p hp => by
    have := ltN (lt1 p hp)
    exact ⟨neN (by omega), neN (by omega)⟩
  have hT : ∀ p ∈ T₀, p.1 ≠ I ∧ p.1 ≠ S := fun p hp => hTn p (hs p hp)
  have fin : ∀ h' : Heap, (∀ b o, b ≠ I → b ≠ S → H2.get? b = some o → h'.get? b = some o) → Fr h₀ L h' m ∧ News h₀ L h' news := fun h' hk =>
    ⟨⟨F2.ns.at' fun o e => hk _ _ hIL hSL e, fun b o e => hk b o (fun q => by rw [q, hI0] at e; cases e) (fun q => by rw [q, hS0] at e; cases e) (F2.keep b o e), F2.above⟩, fun p hp => ⟨hk _ _ (hTn p hp).1 (hTn p hp).2 (N2 p hp).1, (N2 p hp).2⟩⟩
  have W := Walks.list (prog := prog) (w := w) (A := A.in1) hh I l hlI vs.toArray
  have hvl := hv.len
  have hsz : vs.toArray.size = ds.length := by simp [hvl]
  rw [hsz] at W
  have hK : Kp T₀ H2 := fun p hp => (N2 p (hs p hp)).1
  refine wpAny_pure ⟨plainId_quiet PySem.F.plain_min_loop _, ?_⟩
  refine codeAny_builtin PySem.F.entry_min_loop ?_
  rw [Around.under_plainId PySem.F.plain_min_loop _]
  show wpAny _ A.in1 (seqItems? (.ref S) >>= _) _ _ _
  refine wpAny_bind (wpAny_seqItems gD rfl ?_)
  show wpAny _ A.in1 (tryCatch (pyNext (.ref I)) _ >>= _) _ _ _
  refine wpAny_bind (wpAny_tryCatch (W.item 0 _ _ _ hne ⟨⟨_, gI2, rfl, rfl⟩, hL2⟩ fun v h' tk hP hst' hk' => ?_))
  have hS' := hk' S _ (fun q => hSI (List.mem_singleton.mp q)) gD
  have hK' : Kp T₀ h' := fun p hp => hk' _ _ (fun q => (hT p hp).1 (List.mem_singleton.mp q)) (hK p hp)
  obtain ⟨v', hv', hIT⟩ := hv.get (i := 0) hne
  have : v' = v := by
    have h3 : vs[0]? = some v := by simpa using hP
    rw [hv'] at h3; exact Option.some.inj h3
  subst this
  show wpAny _ A.in1 (updateSeq S (fun _ => #[v', v']) >>= _) _ _ _
  refine wpAny_bind ?_
  refine wpAny_updateSeq hS' rfl ?_
  rw [hname]
  refine wpAny_pure ⟨plainId_quiet PySem.F.plain_min_loop _, minLoopM (A := A) hh hu hlI hSI hSl hT hv _ 0 _ v' _ rfl hne (W.frame _ _ _ hst' fun b hbf o e => ?_) (fun p hp => ?_) hIT (Heap.get?_update_self _ hS' rfl) fun v'' h'' tk'' hP' hk'' => ?_⟩
  · refine (Heap.get?_update_other _ _ (fun h : S = b => ?_)).trans e
    subst h
    rcases List.mem_cons.mp hbf with q | q
    · exact hSI q
    · exact hSl (List.mem_singleton.mp q)
  · exact (Heap.get?_update_other _ _ (Ne.symm (hT p hp).2)).trans (hK' p hp)
  · obtain ⟨a, t1, t2, c, rfl, hm⟩ := hP'
    obtain ⟨F3, N3⟩ := fin h'' fun b o hbI hbS e => hk'' b o hbI hbS ((Heap.get?_update_other _ _ (Ne.symm hbS)).trans (hk' b o (fun q => hbI (List.mem_singleton.mp q)) e))
    exact h a t1 t2 c h'' tk'' hm F3 N3
end
end Mine
end
section
open PySem PySem.W PyProof.Rows PySem.Calls
set_option maxRecDepth 100000
set_option maxHeartbeats 2000000
namespace Mine
theorem addNew_mem {met : List (List Nat)} {p q : List Nat} : q ∈ addNew met p ↔ q ∈ met ∨ q = p := by
  unfold addNew
  split
  · rename_i h
    constructor
    · exact .inl
    · rintro (h1 | rfl)
      · exact h1
      · exact h
  · simp
theorem nbTo_mem {text q : List Nat} : ∀ {i : Nat}, q ∈ nbTo text i ↔ ∃ k, k < i ∧ q = (text.drop k).take 2
  | 0 => by simp [nbTo]
  | i + 1 => by
    rw [nbTo, addNew_mem, nbTo_mem]
    constructor
    · rintro (⟨k, hk, e⟩ | e)
      · exact ⟨k, by omega, e⟩
      · exact ⟨i, by omega, e⟩
    · rintro ⟨k, hk, e⟩
      by_cases h : k = i
      · subst h; exact .inr e
      · exact .inl ⟨k, by omega, e⟩
theorem nbrs_two {t p : List Nat} (h : p ∈ nbrs t) : ∃ a b, p = [a, b] := by
  obtain ⟨k, hk, rfl⟩ := nbTo_mem.mp h
  have h1 : k < t.length := by omega
  have h2 : k + 1 < t.length := by omega
  refine ⟨t[k], t[k + 1], ?_⟩
  rw [List.drop_eq_getElem_cons h1, List.drop_eq_getElem_cons h2]
  rfl
theorem nbrs_len (t : List Nat) : (nbrs t).length ≤ t.length := Nat.le_trans (nbTo_len t _) (Nat.sub_le _ _)
theorem minTo_mem {ds : List DT} : ∀ {k : Nat}, k < ds.length → minTo ds k ∈ ds
  | 0, h => by
    rw [minTo, List.getD_eq_getElem?_getD, List.getElem?_eq_getElem h]
    exact List.getElem_mem h
  | k + 1, h => by
    rw [minTo]
    split
    · rw [List.getD_eq_getElem?_getD, List.getElem?_eq_getElem h]
      exact List.getElem_mem h
    · exact minTo_mem (by omega)
theorem minD_mem {ds : List DT} (h : 0 < ds.length) : minD ds ∈ ds := minTo_mem (by omega)
def putL (p : List Nat) (c : Nat) (t : List Nat) : List Nat := put (p.getD 0 0) (p.getD 1 0) c t
def cntsP (t : List Nat) (sg : Nat) : List DT := (nbrs t).map fun p => (((putL p sg t).length : Int) - t.length, p)
def bestP (t : List Nat) (sg : Nat) : DT := minD (cntsP t sg ++ [(-1, [])])
def stepP (sg : Nat) (x : List Nat × List PD) : List Nat × List PD :=
  if (bestP x.1 sg).1 < -1 then (putL (bestP x.1 sg).2 sg x.1, x.2 ++ [((bestP x.1 sg).2, [sg])]) else x
def plainTo (text : List Nat) : Nat → List Nat × List PD
  | 0 => (text, [])
  | i + 1 => stepP (65 + i) (plainTo text i)
theorem putL_le (p : List Nat) (c : Nat) (t : List Nat) : (putL p c t).length ≤ t.length := by
  have := put_len (p.getD 0 0) (p.getD 1 0) c t
  unfold putL; omega
theorem bestP_two {t : List Nat} {sg : Nat} (h : (bestP t sg).1 < -1) : ∃ a b, (bestP t sg).2 = [a, b] := by
  have hm : bestP t sg ∈ cntsP t sg ++ [(-1, [])] := minD_mem (by simp)
  rcases List.mem_append.mp hm with h1 | h1
  · obtain ⟨p, hp, e⟩ := List.mem_map.mp h1
    rw [← e]
    exact nbrs_two hp
  · rw [List.mem_singleton.mp h1] at h
    exact absurd h (by decide)
theorem sign_at {c i : Nat} (h : (Str.ofString "ABCDEFGHIJ").cps[i]? = some c) : c = 65 + i ∧ i < 10 := by
  have e : (Str.ofString "ABCDEFGHIJ").cps = #[65, 66, 67, 68, 69, 70, 71, 72, 73, 74] := by decide +kernel
  rw [e] at h
  have hi : i < 10 := by
    rcases Array.getElem?_eq_some_iff.mp h with ⟨h1, _⟩
    exact h1
  refine ⟨?_, hi⟩
  match i, hi, h with
  | 0, _, h => simp at h; omega
  | 1, _, h => simp at h; omega
  | 2, _, h => simp at h; omega
  | 3, _, h => simp at h; omega
  | 4, _, h => simp at h; omega
  | 5, _, h => simp at h; omega
  | 6, _, h => simp at h; omega
  | 7, _, h => simp at h; omega
  | 8, _, h => simp at h; omega
  | 9, _, h => simp at h; omega
theorem allLt_mem {d : Nat} {l : List (Addr × Obj)} (h : AllLt d l) : ∀ p ∈ l, p.1 < d := by
  induction l with
  | nil => intro p hp; cases hp
  | cons q r ih =>
    intro p hp
    rcases List.mem_cons.mp hp with e | hp
    · rw [e]; exact h.1
    · exact ih h.2 p hp
section
variable {prog : Program} {w : World} {A : Around} {E : Value → Shared → Prop} {s : Shared} {env : Env} {h₀ : Heap} {m : Str → Option Value} {news : List (Addr × Obj)}
theorem storeC {x : Str} {v : Value} {c : Addr} {o : Obj} {v₀ : Option Value} {Q : Unit → Shared → Prop} (F : Fr h₀ env.locals s.heap m) (N : News h₀ env.locals s.heap news) (hc : env.cells.lookup x = some c) (hm : (c, o) ∈ news) (hd : o.data = .cell v₀)
    (hk : env.scope.kind = .function) (hx : env.kindOf x = some .cell)
    (h : ∀ h' o', Fr h₀ env.locals h' m → (∀ nn, (∀ p ∈ nn, p = (c, o') ∨ (p ∈ news ∧ p.1 ≠ c)) → News h₀ env.locals h' nn) → o'.data = .cell (some v) → Q () { s with heap := h' }) :
    wpAny (model prog w) A (storeName env x v) Q E s := by
  have hmem := N (c, o) hm
  refine wpAny_storeName_cell hk hx hc ⟨o, hmem.1, hd⟩ fun h' hv hs => ?_
  obtain ⟨o', ho', hd'⟩ := hv
  refine h h' o' ⟨F.ns.sameBut hs (Ne.symm hmem.2.1), fun b ob e => (hs.2 b (fun q => ?_)).trans (F.keep b ob e), F.above⟩ (fun nn hn p hp => ?_) hd'
  · rw [q, hmem.2.2] at e; cases e
  · rcases hn p hp with rfl | ⟨h1, h2⟩
    · exact ⟨ho', hmem.2⟩
    · exact ⟨(hs.2 p.1 h2).trans (N p h1).1, (N p h1).2⟩
theorem tupI0 {L a : Addr} {v1 v2 : Value} {c : Nat} {u : Tok} {value slice : PySem.Expr} {Q : Value → Shared → Prop} (N : News h₀ L s.heap news) (hm : (a, tO v1 v2 c) ∈ news) (h : Q v1 s)
    (hs : subscripted slice false (.ref a) (.int 0 u) = operate [.ref a, .int 0 u] (getItem (.ref a) (.int 0 u))) (hg : ∀ r, letTemporaryGo value (.ref a) r = pure ()) :
    wpAny (model prog w) A (subscriptTail value slice (.ref a) (.int 0 u)) Q E s :=
  kim_tup (l := [v1, v2]) (n := c) (j := 0) N hm rfl rfl (by decide) (by decide) rfl rfl h hs hg
theorem tupI1 {L a : Addr} {v1 v2 : Value} {c : Nat} {u : Tok} {value slice : PySem.Expr} {Q : Value → Shared → Prop} (N : News h₀ L s.heap news) (hm : (a, tO v1 v2 c) ∈ news) (h : Q v2 s)
    (hs : subscripted slice false (.ref a) (.int 1 u) = operate [.ref a, .int 1 u] (getItem (.ref a) (.int 1 u))) (hg : ∀ r, letTemporaryGo value (.ref a) r = pure ()) :
    wpAny (model prog w) A (subscriptTail value slice (.ref a) (.int 1 u)) Q E s :=
  kim_tup (l := [v1, v2]) (n := c) (j := 1) N hm rfl rfl (by decide) (by decide) rfl rfl h hs hg
end
end Mine
end
section
open PySem PySem.W PyProof.Rows PySem.Calls
set_option maxRecDepth 100000
set_option maxHeartbeats 8000000
namespace Mine
theorem filled : Challenge.rw_mj0098_01.prog = Challenge.rw_mj0098_01.prog ∧ hd.heap_39 = hd.heap_39 := by k_fill; exact ⟨rfl, rfl⟩

local macro_rules | `(tactic| walk_at "ST") => `(tactic| repeat' (
  (fail_if_success (with_reducible show wpAny _ _ (exec (Stmt.While _ _ _ _) _) _ _ _));
  (fail_if_success (with_reducible show wpAny _ _ (exec (Stmt.For _ _ _ _ _) _) _ _ _));
  (fail_if_success (with_reducible show wpAny _ _ (call (Value.ref _) _ _) _ _ _));
  first | (k_unfold; (try dsimp only)) | walk1 | (dsimp only; walk1)))

theorem put_spec {prog : Program} {w : World} {A : Around} {E : Value → Shared → Prop} {s : Shared} {h₀ : Heap} {L : Addr} {m : Str → Option Value} {news : List (Addr × Obj)}
    (C : Cx w h₀) (F : Fr h₀ L s.heap m) (N : News h₀ L s.heap news) (hA : ALe A 600) {text : List Nat} {a b c : Nat} {t1 t2 t3 : Tok} (hlen : text.length ≤ 1000)
    {Q : Value → Shared → Prop} (hQ : ∀ h' tk t, Fr h₀ L h' m → News h₀ L h' news → Q (.str (ofL (put a b c text)) t) {s with heap := h', toks := tk}) :
    wpAny (model prog w) A (call (.ref 82) [.str (ofL text) t1, .str (ofL [a, b]) t2, .str (ofL [c]) t3]) Q E s := by
  refine wpAny_lv hA (wpAny_call ?_)
  refine callM C F N (by k_is) (by k_is) (by decide) (BindsTo.of_eq rfl) (locs rfl) ?_
  clear F N C
  intro g L' h' C' F' N' l1
  obtain ⟨X', mg, mb, T'⟩ := C'
  try dsimp only
  k_fold
  have hl0 := ofL_len text
  have hl1 := ofL_len [a, b]
  have hl2 := ofL_len [c]
  simp only [List.length_cons, List.length_nil] at hl1 hl2
  generalize hT : ofL text = T at F' hl0
  generalize hU : ofL [a, b] = U at F' hl1
  generalize hV : ofL [c] = V at F' hl2
  walk_at "ST"
  rename Fr _ _ _ _ => F1
  rename News _ _ _ _ => N1
  refine While_inv2 (n₀ := text.length) (fun n m₁ nx => ∃ (k : Int) (row : List Nat) (t t' : Tok), nx = news ∧ Knows m₁ [(Str.ofString "text", .str T t1), (Str.ofString "two", .str U t2), (Str.ofString "sign", .str V t3), (Str.ofString "k", .int k t), (Str.ofString "row", .str (ofL row) t')] ∧ 0 ≤ k ∧ k ≤ text.length ∧ row ++ put a b c (text.drop k.toNat) = put a b c text ∧ row.length ≤ k ∧ n = text.length - k.toNat) F1 N1 ?_ ?_
  · exact ⟨0, [], _, _, rfl, ⟨rfl, rfl, rfl, rfl, rfl, trivial⟩, by omega, by omega, by simp, by simp, by simp⟩
  clear F1 N1
  rintro n m₁ nx h₁ tk₁ F1 N1 ⟨k, row, t, t', rfl, hkn, hk0, hk1, hrow, hrl, rfl⟩
  replace F1 := frKnows F1 hkn
  dsimp only [bl] at F1
  clear hkn
  have hR := ofL_len row
  generalize hW : ofL row = R at F1 hR
  walk_at "ST"
  · rename (Txt.slice _ _ _ == _) = true => hc
    have e : R ++ V = ofL (row ++ [c]) := by rw [← hW, ← hV, ofL_app]
    rw [← hT, ← hU, slice_at text hk0 hk1 (by omega), ofL_beq, beq_iff_eq] at hc
    have e2 : (k + 2 - k).toNat = 2 := by omega
    rw [e2] at hc
    obtain ⟨e3, e4⟩ := put_hit (c := c) hc
    have e5 : (k + 2).toNat = k.toNat + 2 := by omega
    refine ⟨_, _, _, _, text.length - (k + 2).toNat, rfl, by assumption, by assumption, by omega, ⟨k + 2, row ++ [c], _, _, rfl, ⟨rfl, rfl, rfl, rfl, congrArg (fun z => some (Value.str z _)) e, trivial⟩, by omega, by omega, ?_, by simp; omega, rfl⟩⟩
    rw [e5, ← hrow, e3]; simp
  · rename (Txt.slice _ _ _ == _) = false => hc
    rename k < (T.length : Int) => hlt
    rw [hl0] at hlt
    have e : R ++ Txt.item T k = ofL (row ++ [text.getD k.toNat 0]) := by rw [← hW, ← hT, item_at text hk0 hlt, ofL_app]
    rw [← hT, ← hU, slice_at text hk0 hk1 (by omega), ofL_beq, beq_eq_false_iff_ne] at hc
    have e2 : (k + 2 - k).toNat = 2 := by omega
    rw [e2] at hc
    have e3 := put_miss (c := c) (by omega) hc
    have e5 : (k + 1).toNat = k.toNat + 1 := by omega
    refine ⟨_, _, _, _, text.length - (k + 1).toNat, rfl, by assumption, by assumption, by omega, ⟨k + 1, row ++ [text.getD k.toNat 0], _, _, rfl, ⟨rfl, rfl, rfl, rfl, congrArg (fun z => some (Value.str z _)) e, trivial⟩, by omega, by omega, ?_, by simp; omega, rfl⟩⟩
    rw [e5, ← hrow, e3]; simp
  · dsimp only
    k_unfold
    have e : row = put a b c text := by
      rw [← hrow, List.drop_eq_nil_of_le (by omega)]; simp [put]
    refine leaveK_ F1 N1 fun kF kN => ?_
    rw [← hW, e]
    exact hQ _ _ _ kF kN
end Mine
end
section
open PySem PySem.W PyProof.Rows PySem.Calls
set_option maxRecDepth 100000
set_option maxHeartbeats 8000000
namespace Mine

local macro_rules | `(tactic| walk_at "ST") => `(tactic| repeat' (
  (fail_if_success (with_reducible show wpAny _ _ (exec (Stmt.While _ _ _ _) _) _ _ _));
  (fail_if_success (with_reducible show wpAny _ _ (exec (Stmt.For _ _ _ _ _) _) _ _ _));
  (fail_if_success (with_reducible show wpAny _ _ (pyIter _) _ _ _));
  (fail_if_success (with_reducible show wpAny _ _ (call (Value.ref _) _ _) _ _ _));
  first | (k_unfold; (try dsimp only)) | walk1 | (dsimp only; walk1)))

theorem nbrs_spec {prog : Program} {w : World} {A : Around} {E : Value → Shared → Prop} {s : Shared} {h₀ : Heap} {L : Addr} {m : Str → Option Value} {news : List (Addr × Obj)}
    (C : Cx w h₀) (F : Fr h₀ L s.heap m) (N : News h₀ L s.heap news) (hA : ALe A 600) {text : List Nat} {t1 : Tok} (hlen : text.length ≤ 1000)
    {Q : Value → Shared → Prop} (hQ : ∀ h' tk l vs ep, Fr h₀ L h' m → News h₀ L h' ((l, W.listOf vs.toArray ep) :: news) → (∀ p ∈ news, p.1 < l) → TV vs (nbrs text) → Q (.ref l) {s with heap := h', toks := tk}) :
    wpAny (model prog w) A (call (.ref 70) [.str (ofL text) t1]) Q E s := by
  refine wpAny_lv hA (wpAny_call ?_)
  refine callM C F N (by k_is) (by k_is) (by decide) (BindsTo.of_eq rfl) (locs rfl) ?_
  clear F N C
  intro g L' h' C' F' N' l1
  obtain ⟨X', mg, mb, T'⟩ := C'
  try dsimp only
  k_fold
  have hl0 := ofL_len text
  generalize hT : ofL text = T at F' hl0
  walk_at "ST"
  rename Fr _ _ _ _ => F1
  rename News _ _ _ _ => N1
  refine For_invVF F1 rfl rfl ?_
  walk_at "ST"
  rename IsRange _ _ _ _ _ _ _ _ => R1
  rename Fr _ _ _ _ => F1
  rename News _ _ _ _ => N1
  rename_i l' _ _ _ _ _ _ _ _ _ _ _
  rename (∀ p ∈ news, p.1 < l') => hlt0
  have hne0 : ∀ p ∈ news, p.1 ≠ l' := fun p hp => Nat.ne_of_lt (hlt0 p hp)
  refine iter_rangeM (n := text.length - 1) (fun i m₁ nx => ∃ (vs : List Value) (ep : Nat), nx = (l', W.listOf vs.toArray ep) :: news ∧ TV vs (nbTo text i) ∧ Knows m₁ [(Str.ofString "text", .str T t1), (Str.ofString "met", .ref l')]) rfl R1 ?_ ?_ F1 N1 ?_ ?_ ?_
  · exact small_one (by decide) (by decide) (by omega) (by omega)
  · rw [rangeSize_nat]; congr 1; omega
  · exact ⟨[], 0, rfl, .nil, ⟨rfl, rfl, trivial⟩⟩
  · rintro i t m₁ nx h tk own hi ⟨vs, ep, rfl, hv, hkn⟩ ho hne F2 N2
    clear F1 N1 R1
    replace F2 := frKnows (ps := [(Str.ofString "k", .int i t), (Str.ofString "text", .str T t1), (Str.ofString "met", .ref l')]) F2 ⟨by simp, hkn.1, hkn.2.1, trivial⟩
    replace F2 : Fr g L' h _ := F2
    dsimp only [bl] at F2
    replace N2 : News g L' h ((l', W.listOf vs.toArray ep) :: (own ++ news)) := newsMid N2
    have hoff : OwnOff (own ++ news) [l'] := offApp ho (hne _ (.head _)) hne0
    have hvl := hv.len
    have hvl2 := nbTo_len text i
    have hv0 := hv
    unfold TV at hv
    have hi0 : 0 ≤ (i : Int) := by omega
    have hsl : Txt.slice T (some (i : Int)) (some ((i : Int) + 2)) = ofL ((text.drop i).take 2) := by
      rw [← hT, slice_at text hi0 (by omega) (by omega)]
      congr 2; omega
    have hany : ((List.map ofL (nbTo text i)).any fun x => x == ofL ((text.drop i).take 2)) = decide ((text.drop i).take 2 ∈ nbTo text i) := by
      rw [List.any_map, Bool.eq_iff_iff]
      simp [ofL_iff]
    walk_at "ST"
    · rename (List.any _ _) = true => hin
      rw [hsl, hany] at hin
      refine ⟨_, _, _, (l', W.listOf vs.toArray ep) :: news, rfl, by assumption, newsMid' (by assumption), hne, vs, ep, rfl, ?_, ⟨rfl, rfl, trivial⟩⟩
      show TV vs (addNew _ _)
      rw [addNew, if_pos (of_decide_eq_true hin)]; exact hv0
    · rename (List.any _ _) = false => hin
      rw [hsl, hany] at hin
      rename News _ _ _ _ => N3
      rw [hsl] at N3
      simp only [List.push_toArray] at N3
      refine ⟨_, _, _, _, rfl, by assumption, newsMid' N3, ?_, _, _, rfl, ?_, ⟨rfl, rfl, trivial⟩⟩
      · intro p hp
        rcases List.mem_cons.mp hp with e | hp
        · rw [e]; exact hne (l', W.listOf vs.toArray ep) (.head _)
        · exact hne _ (.tail _ hp)
      · show TV _ (addNew _ _)
        rw [addNew, if_neg (of_decide_eq_false hin)]; exact hv0.snoc
  · rintro m₁ nx h tk ⟨vs, ep, rfl, hv, hkn⟩ hne F2 N2
    clear F1 N1 R1
    replace F2 := frKnows F2 hkn
    replace F2 : Fr g L' h _ := F2
    dsimp only [bl] at F2
    replace N2 : News g L' h _ := N2
    walk_at "ST"
    dsimp only
    k_unfold
    refine leaveK_ (by assumption) (by assumption) fun kF kN => ?_
    exact hQ _ _ _ _ _ kF kN hlt0 hv
end Mine
end
section
open PySem PySem.W PyProof.Rows PySem.Calls
set_option maxRecDepth 100000
set_option maxHeartbeats 2000000
namespace Mine
local macro_rules | `(tactic| walk_at "ST") => `(tactic| repeat' (
  (fail_if_success (with_reducible show wpAny _ _ (exec (Stmt.While _ _ _ _) _) _ _ _));
  (fail_if_success (with_reducible show wpAny _ _ (exec (Stmt.For _ _ _ _ _) _) _ _ _));
  (fail_if_success (with_reducible show wpAny _ _ (exec (Stmt.Assign _ (Expr.ListComp _ _ _ _) _) _) _ _ _));
  (fail_if_success (with_reducible show wpAny _ _ (pyIter _) _ _ _));
  (fail_if_success (with_reducible show wpAny _ _ (binaryOp _ (Value.ref _) _) _ _ _));
  (fail_if_success (with_reducible show wpAny _ _ (call (Value.builtin "min") _ _) _ _ _));
  (fail_if_success (with_reducible show wpAny _ _ (subscriptTail _ _ (Value.ref _) _) _ _ _));
  (fail_if_success (with_reducible show wpAny _ _ (storeName _ (Str.ofString "text") _) _ _ _));
  (fail_if_success (with_reducible show wpAny _ _ (call (Value.ref _) _ _) _ _ _));
  first | (k_unfold; (try dsimp only)) | walk1 | (dsimp only; walk1)))
local macro_rules | `(tactic| walk_at "eval Name") => `(tactic| (k_here; (with_reducible show wpAny _ _ (eval (Expr.Name _ _) (compEnvC _ _ _ _)) _ _ _); (rename Fr _ _ _ _ => fM'); (rename News _ _ _ _ => nM'); k_dflt (first
  | (refine nmL fM' (by with_reducible assumption) ?_ rfl rfl (by decide))
  | (refine nmC nM' rfl (by with_reducible assumption) (by with_reducible assumption) ?_ rfl rfl (by decide))
  | (refine nmG ?kC fM' (by k_is) ?_ rfl rfl rfl (by decide); (case kC => assumption))
  | (refine nmB ?kC fM' (by k_is) (by boot_fast) (by decide) ?_ rfl rfl rfl rfl (by decide); (case kC => assumption)))))
theorem add_M {prog : Program} {w : World} {A : Around} {E : Value → Shared → Prop} {s : Shared} {h₀ : Heap} {L l b : Addr} {m : Str → Option Value} {news : List (Addr × Obj)} {vs ws : List Value} {n k : Nat} {Q : Value → Shared → Prop}
    (F : Fr h₀ L s.heap m) (N : News h₀ L s.heap news) (hl : (l, W.listOf vs.toArray n) ∈ news) (hb : (b, W.listOf ws.toArray k) ∈ news) (hz : vs.length + ws.length ≤ 1000000)
    (h : ∀ Z h', Fr h₀ L h' m → News h₀ L h' ((Z, W.listOf (vs ++ ws).toArray 0) :: news) → (∀ p ∈ news, p.1 < Z) → Q (.ref Z) { s with heap := h' }) :
    wpAny (model prog w) A (binaryOp .Add (.ref l) (.ref b)) Q E s :=
  add_lists F N (News.isList N hl) (News.isList N hb) (hsz := by rw [sizeLine_eq]; omega) fun h' F' N' => h _ h' F' N' fun p hp => Heap.lt_size (N p hp).1
theorem TV.get {vs : List Value} {ps : List (List Nat)} (h : TV vs ps) : ∀ {k : Nat} {v : Value}, vs[k]? = some v → ∃ p u, ps[k]? = some p ∧ v = .str (ofL p) u := by
  induction ps generalizing vs with
  | nil => intro k v hk; cases h; simp at hk
  | cons p r ih =>
    intro k v hk
    cases h with
    | cons _ u h =>
      cases k with
      | zero => simp at hk; exact ⟨p, u, rfl, hk.symm⟩
      | succ k => exact ih h (by simpa using hk)
theorem takeSucc {α : Type} {l : List α} {k : Nat} {x : α} (h : l[k]? = some x) : l.take (k + 1) = l.take k ++ [x] := by
  rw [List.take_add_one, h]; rfl
theorem plain_spec {prog : Program} {w : World} {A : Around} {E : Value → Shared → Prop} {s : Shared} {h₀ : Heap} {L : Addr} {m : Str → Option Value} {news : List (Addr × Obj)}
    (C : Cx w h₀) (F : Fr h₀ L s.heap m) (N : News h₀ L s.heap news) (hA : ALe A 500) {text : List Nat} {t1 : Tok} (hlen : text.length ≤ 100)
    {Q : Value → Shared → Prop} (hQ : ∀ h' tk a l fs ep t2 c T, Fr h₀ L h' m → News h₀ L h' ((a, tO (.str (ofL (plainTo text 10).1) t2) (.ref l) c) :: (l, W.listOf fs.toArray ep) :: T) → Sub news T → PTs T fs (plainTo text 10).2 → (∀ p ∈ T, p.1 ≠ a ∧ p.1 ≠ l) → a ≠ l → Q (.ref a) {s with heap := h', toks := tk}) :
    wpAny (model prog w) A (call (.ref 87) [.str (ofL text) t1]) Q E s := by
  refine wpAny_lv hA (wpAny_call ?_)
  refine callMc C F N (by k_is) (by k_is) (by decide) (binds := [(Str.ofString "text", .str (ofL text) t1)]) (BindsTo.of_eq rfl) rfl (by decide) ?_
  clear F N C
  intro g L' h' tk cells C' F' N' hc l1
  obtain ⟨X', mg, mb, T'⟩ := id C'
  try dsimp only
  k_fold
  replace F' : Fr g L' h' (fun _ => none) := F'
  cases hc with
  | cons hd1 hc =>
  cases hc with
  | cons hd2 hc =>
  cases hc
  rename_i oS oT
  replace hd1 : oS.data = .cell none := hd1
  replace hd2 : oT.data = .cell (some (.str (ofL text) t1)) := hd2
  replace N' : News g L' h' ((L' + 1 + 1, oS) :: (L' + 1, oT) :: news) := N'
  have nST : L' + 1 + 1 ≠ L' + 1 := Nat.succ_ne_self _
  have nS0 : ∀ p ∈ news, p.1 ≠ L' + 1 + 1 := fun p hp => by have := ltN (l1 p hp); exact neN (by omega)
  have nT0 : ∀ p ∈ news, p.1 ≠ L' + 1 := fun p hp => by have := ltN (l1 p hp); exact neN (by omega)
  walk_at "ST"
  rename_i lF _ l2 h1 F1 N1
  have nFS : lF ≠ L' + 1 + 1 := Ne.symm (Nat.ne_of_lt l2.1)
  have nFT : lF ≠ L' + 1 := Ne.symm (Nat.ne_of_lt l2.2.1)
  have nF0 : ∀ p ∈ news, p.1 ≠ lF := fun p hp => Nat.ne_of_lt (allLt_mem l2.2.2 p hp)
  have hsz : (Str.ofString "ABCDEFGHIJ").cps.size = 10 := by decide +kernel
  refine wpAny_For ?_ (by intro _; rfl)
  walk_at "ST"
  refine iter_strM (n := 10) (fun i m₁ nx => ∃ t fs fd ep oS oT tt T, nx = (lF, W.listOf fs.toArray ep) :: (L' + 1 + 1, oS) :: (L' + 1, oT) :: T ∧ Sub news T ∧ (∃ v, oS.data = .cell v) ∧ oT.data = .cell (some (.str (ofL t) tt)) ∧ PTs T fs fd ∧ (t, fd) = plainTo text i ∧ t.length ≤ 100 ∧ fd.length ≤ i ∧
      (∀ p ∈ T, p.1 ≠ lF ∧ p.1 ≠ L' + 1 + 1 ∧ p.1 ≠ L' + 1) ∧ Knows m₁ [(Str.ofString "found", .ref lF)])
    (fun i v m₁ nx => ∃ t fs fd ep oS oT tt T, nx = (lF, W.listOf fs.toArray ep) :: (L' + 1 + 1, oS) :: (L' + 1, oT) :: T ∧ Sub news T ∧ oS.data = .cell (some v) ∧ oT.data = .cell (some (.str (ofL t) tt)) ∧ PTs T fs fd ∧ (t, fd) = plainTo text i ∧ t.length ≤ 100 ∧ fd.length ≤ i ∧
      (∀ p ∈ T, p.1 ≠ lF ∧ p.1 ≠ L' + 1 + 1 ∧ p.1 ≠ L' + 1) ∧ Knows m₁ [(Str.ofString "found", .ref lF)]) rfl (by decide +kernel) hsz F1 N1 ?_ (by passes_own) ?_ ?_ ?_
  · exact ⟨text, [], [], 0, oS, oT, t1, news, rfl, Sub.rfl, ⟨_, hd1⟩, hd2, trivial, rfl, hlen, Nat.le_refl _, fun p hp => ⟨nF0 p hp, nS0 p hp, nT0 p hp⟩, ⟨rfl, trivial⟩⟩
  · rintro I i v m₁ nx h tk own hi hv ⟨t, fs, fd, ep, oS, oT, tt, T, rfl, hs, ⟨v0, hS⟩, hT, hP, he, htl, hfl, hoff, hkn⟩ ho hne F3 N3
    refine wpAny_pure (wpAny_assign_Name (storeC (c := L' + 1 + 1) F3 N3 rfl (List.mem_append_right _ (.tail _ (.head _))) hS rfl rfl ?_))
    intro h4 oS' F4 N4 hS'
    refine ⟨h4, tk, m₁, (lF, W.listOf fs.toArray ep) :: (L' + 1 + 1, oS') :: (L' + 1, oT) :: T, rfl, F4, N4 _ ?_, ?_, ⟨t, fs, fd, ep, oS', oT, tt, T, rfl, hs, hS', hT, hP, he, htl, hfl, hoff, hkn⟩⟩
    · intro p hp
      have h5 : L' + 1 + 1 ≠ I := hne _ (.tail _ (.head _))
      simp only [List.mem_append, List.mem_cons] at hp ⊢
      rcases hp with hp | rfl | rfl | rfl | hp
      · exact .inr ⟨.inl hp, by rw [ho p hp]; exact Ne.symm h5⟩
      · exact .inr ⟨.inr (.inl rfl), nFS⟩
      · exact .inl rfl
      · exact .inr ⟨.inr (.inr (.inr (.inl rfl))), Ne.symm nST⟩
      · exact .inr ⟨.inr (.inr (.inr (.inr hp))), (hoff p hp).2.1⟩
    · intro p hp
      rcases List.mem_cons.mp hp with rfl | hp
      · exact hne (lF, W.listOf fs.toArray ep) (.head _)
      rcases List.mem_cons.mp hp with rfl | hp
      · exact hne (L' + 1 + 1, oS) (.tail _ (.head _))
      · exact hne p (.tail _ (.tail _ hp))
  · clear F1 N1 hd1 hd2
    rintro I i v m₁ nx h tk own hi ⟨sg, u, hsg, rfl⟩ ⟨t, fs, fd, ep, oS, oT, tt, T, rfl, hs, hS, hT, hP, he, htl, hfl, hoff, hkn⟩ ho ⟨oI, hoI⟩ hne F3 N3
    obtain ⟨rfl, _⟩ := sign_at hsg
    replace F3 := frKnows F3 hkn
    dsimp only [bl] at F3
    replace F3 : Fr g L' h _ := F3
    replace N3 : News g L' h ((lF, W.listOf fs.toArray ep) :: (L' + 1 + 1, oS) :: (L' + 1, oT) :: (own ++ T)) := KStt.news_of N3 fun p hp => by
      simp only [List.mem_cons, List.mem_append] at hp ⊢
      rcases hp with h | h | h | h | h
      · exact .inr (.inl h)
      · exact .inr (.inr (.inl h))
      · exact .inr (.inr (.inr (.inl h)))
      · exact .inl h
      · exact .inr (.inr (.inr (.inr h)))
    clear hkn
    walk_at "ST"
    refine Assign_comp (cl := [(Str.ofString "text", L' + 1), (Str.ofString "sign", L' + 1 + 1)]) rfl rfl rfl (by decide) ?_
    walk_at "ST"
    replace hS : oS.data = .cell (some (.str (ofL [65 + i]) u)) := hS
    refine nbrs_spec C' F3 N3 (ALe.lvDeeper.mono (by decide)) (by omega) ?_
    intro h4 tk4 l vs ep4 F4 N4 l4 hvs
    have hvl := hvs.len
    have hvl2 := nbrs_len t
    clear F3 N3
    have hcl : (cntsP t (65 + i)).length = vs.length := by rw [hvl, cntsP, List.length_map]
    refine comp_listM (fun k ys nx => ∃ U, nx = U ++ ((l, W.listOf vs.toArray ep4) :: (lF, W.listOf fs.toArray ep) :: (L' + 1 + 1, oS) :: (L' + 1, oT) :: (own ++ T)) ∧ ITs U ys ((cntsP t (65 + i)).take k) ∧ (∀ p ∈ U, l < p.1)) (fun k v mc => mc (Str.ofString "two") = some v)
      rfl (by decide) rfl (News.isList N4 (.head _)) ?_ (by omega) F4 N4 ⟨[], rfl, trivial, fun p hp => nomatch hp⟩ ?_ ?_ ?_
    · exact (N4 _ (.head _)).2.1
    · intro C I i v h tk mc nx ys nj hv hJ hsub hit F N
      exact go_name (l := l) (i := 0) rfl rfl F N (fun mc' h => h)
    · rintro C D I' k v ys nx ep5 oL h5 tk5 mc own5 hv ⟨U, rfl, hU, hUl⟩ hB hyl hown5 ⟨oI', hoI'⟩ hnx F5 N5
      clear F4 N4
      refine wpAny_tests_nil ?_
      simp only [if_true]
      obtain ⟨p, tv, hp, rfl⟩ := hvs.get hv
      obtain ⟨a, b, rfl⟩ := nbrs_two (List.mem_of_getElem? hp)
      have hmT : (L' + 1, oT) ∈ ((D, W.listOf ys.toArray ep5) :: (L', oL) :: (own5 ++ (U ++ ((l, W.listOf vs.toArray ep4) :: (lF, W.listOf fs.toArray ep) :: (L' + 1 + 1, oS) :: (L' + 1, oT) :: (own ++ T))))) := by simp
      have hmS : (L' + 1 + 1, oS) ∈ ((D, W.listOf ys.toArray ep5) :: (L', oL) :: (own5 ++ (U ++ ((l, W.listOf vs.toArray ep4) :: (lF, W.listOf fs.toArray ep) :: (L' + 1 + 1, oS) :: (L' + 1, oT) :: (own ++ T))))) := by simp
      replace N5 : News g C h5 ((D, W.listOf ys.toArray ep5) :: (L', oL) :: (own5 ++ (U ++ ((l, W.listOf vs.toArray ep4) :: (lF, W.listOf fs.toArray ep) :: (L' + 1 + 1, oS) :: (L' + 1, oT) :: (own ++ T))))) := N5
      generalize hLD : ((D, W.listOf ys.toArray ep5) :: (L', oL) :: (own5 ++ (U ++ ((l, W.listOf vs.toArray ep4) :: (lF, W.listOf fs.toArray ep) :: (L' + 1 + 1, oS) :: (L' + 1, oT) :: (own ++ T))))) = LD at N5 hmT hmS
      have ht0 := ofL_len t
      walk_at "ST"
      rename Fr _ _ _ _ => F6
      rename News _ _ _ _ => N6
      refine put_spec C' F6 N6 (ALe.lvDeeper.mono (by decide)) (by omega) ?_
      intro h7 tk7 t7 F7 N7
      have ht7 := ofL_len (put a b (65 + i) t)
      have ht8 := put_len a b (65 + i) t
      walk_at "ST"
      rename_i D' h8 F8 N8 l8
      rw [ht7, ht0] at N8
      obtain ⟨t9, N9⟩ : ∃ t9, News g C h8 ((D', tO (.int (((put a b (65 + i) t).length : Int) - t.length) t9) (.str (ofL [a, b]) tv) 0) :: LD) := ⟨_, N8⟩
      clear N8
      subst hLD
      refine ⟨h8, _, mc, (D', tO (.int (((put a b (65 + i) t).length : Int) - t.length) t9) (.str (ofL [a, b]) tv) 0) :: (U ++ ((l, W.listOf vs.toArray ep4) :: (lF, W.listOf fs.toArray ep) :: (L' + 1 + 1, oS) :: (L' + 1, oT) :: (own ++ T))), rfl, F8, KStt.news_of N9 ?_, ?_, (D', tO (.int (((put a b (65 + i) t).length : Int) - t.length) t9) (.str (ofL [a, b]) tv) 0) :: U, rfl, ?_, ?_⟩
      · intro p hp
        simp only [List.mem_cons, List.mem_append] at hp ⊢
        rcases hp with hp | hp | hp | hp | hp
        · exact .inr (.inl hp)
        · exact .inr (.inr (.inl hp))
        · exact .inr (.inr (.inr (.inl hp)))
        · exact .inl hp
        · exact .inr (.inr (.inr (.inr hp)))
      · intro p hp
        rcases List.mem_cons.mp hp with rfl | hp
        · refine ⟨Ne.symm (Nat.ne_of_lt (l8 _ (.head _))), Ne.symm (Nat.ne_of_lt (l8 _ (.tail _ (.head _)))), Ne.symm (Nat.ne_of_lt (l8 _ (.tail _ (.tail _ (List.mem_append_left _ hoI')))))⟩
        · exact hnx p hp
      · rw [takeSucc (x := ((((putL [a, b] (65 + i) t).length : Int) - t.length), [a, b])) (by rw [cntsP, List.getElem?_map, hp]; rfl)]
        exact ITs.snoc (d := ((((put a b (65 + i) t).length : Int) - t.length), [a, b])) ⟨D', t9, tv, 0, rfl, .head _⟩ (hU.mono fun p hp => .tail _ hp)
      · intro p hp
        rcases List.mem_cons.mp hp with rfl | hp
        · exact l8 _ (.tail _ (.tail _ (List.mem_append_right _ (List.mem_append_right _ (.head _)))))
        · exact hUl p hp
    · rintro D C ys nx ep6 h6 tk6 mc ⟨U, rfl, hU, hUl⟩ hne6 hDL hDC hCL hC0 hlD F6 N6 hNs
      clear F4 N4
      refine post_some (y := Str.ofString "counts") rfl rfl F6 N6 hNs hCL hC0 ?_ ?_
      · intro p hp
        rcases List.mem_cons.mp hp with rfl | hp
        · exact hDC
        · exact (hne6 p hp).2
      intro h7 tk7 F7 N7
      clear F6 N6 hNs
      rw [← hcl, List.take_length] at hU
      replace N7 : News g L' h7 ((lF, W.listOf fs.toArray ep) :: (L' + 1 + 1, oS) :: (L' + 1, oT) :: (D, W.listOf ys.toArray ep6) :: (U ++ ((l, W.listOf vs.toArray ep4) :: (own ++ T)))) := KStt.news_of N7 fun p hp => by
        simp only [List.mem_cons, List.mem_append] at hp ⊢
        rcases hp with h | h | h | h | h | h | h
        · exact .inr (.inr (.inr (.inl h)))
        · exact .inr (.inr (.inr (.inr (.inl h))))
        · exact .inr (.inr (.inr (.inr (.inr (.inl h)))))
        · exact .inl h
        · exact .inr (.inl h)
        · exact .inr (.inr (.inl h))
        · exact .inr (.inr (.inr (.inr (.inr (.inr h)))))
      replace F7 : Fr g L' h7 _ := F7
      have hRU : Sub U (U ++ ((l, W.listOf vs.toArray ep4) :: (own ++ T))) := fun p hp => List.mem_append_left _ hp
      have hRT : Sub T (U ++ ((l, W.listOf vs.toArray ep4) :: (own ++ T))) := fun p hp => List.mem_append_right _ (.tail _ (List.mem_append_right _ hp))
      have q1 := l4 _ (.head _)
      have q2 := l4 _ (.tail _ (.head _))
      have q3 := l4 _ (.tail _ (.tail _ (.head _)))
      have hR : ∀ p ∈ (U ++ ((l, W.listOf vs.toArray ep4) :: (own ++ T))), p.1 ≠ lF ∧ p.1 ≠ L' + 1 + 1 ∧ p.1 ≠ L' + 1 := by
        intro p hp
        rcases List.mem_append.mp hp with hp | hp
        · have := hUl p hp
          exact ⟨Ne.symm (Nat.ne_of_lt (Nat.lt_trans q1 this)), Ne.symm (Nat.ne_of_lt (Nat.lt_trans q2 this)), Ne.symm (Nat.ne_of_lt (Nat.lt_trans q3 this))⟩
        rcases List.mem_cons.mp hp with rfl | hp
        · exact ⟨Ne.symm (Nat.ne_of_lt q1), Ne.symm (Nat.ne_of_lt q2), Ne.symm (Nat.ne_of_lt q3)⟩
        rcases List.mem_append.mp hp with hp | hp
        · rw [ho p hp]
          exact ⟨Ne.symm (hne (lF, W.listOf fs.toArray ep) (.head _)), Ne.symm (hne (L' + 1 + 1, oS) (.tail _ (.head _))), Ne.symm (hne (L' + 1, oT) (.tail _ (.tail _ (.head _))))⟩
        · exact hoff p hp
      have hD3 : D ≠ lF ∧ D ≠ L' + 1 + 1 ∧ D ≠ L' + 1 := ⟨Ne.symm (Nat.ne_of_lt (hlD _ (.tail _ (.head _)))), Ne.symm (Nat.ne_of_lt (hlD _ (.tail _ (.tail _ (.head _))))), Ne.symm (Nat.ne_of_lt (hlD _ (.tail _ (.tail _ (.tail _ (.head _))))))⟩
      have hRo : Sub own (U ++ ((l, W.listOf vs.toArray ep4) :: (own ++ T))) := fun p hp => List.mem_append_right _ (.tail _ (List.mem_append_left _ hp))
      generalize (U ++ ((l, W.listOf vs.toArray ep4) :: (own ++ T))) = R at N7 hRU hRT hR hRo
      walk_at "ST"
      rename_i D' h8 lt8 l' h9 F9 N9 lt9
      obtain ⟨t9, t10, N10⟩ : ∃ t9 t10, News g L' h9 ((l', W.listOf [.ref D'].toArray 0) :: (D', tO (.int (-1) t9) (.str (ofL []) t10) 0) :: (lF, W.listOf fs.toArray ep) :: (L' + 1 + 1, oS) :: (L' + 1, oT) :: (D, W.listOf ys.toArray ep6) :: R) := ⟨_, _, N9⟩
      clear N9
      have hyl := hU.len
      refine add_M F9 N10 (.tail _ (.tail _ (.tail _ (.tail _ (.tail _ (.head _)))))) (.head _) (by simp only [List.length_cons, List.length_nil]; omega) ?_
      intro Z h11 F11 N11 lt11
      clear F9 N10
      walk_at "ST"
      rename Fr _ _ _ _ => F12
      rename News _ _ _ _ => N12
      refine min_M (T₀ := (D', tO (.int (-1) t9) (.str (ofL []) t10) 0) :: U) (ds := cntsP t (65 + i) ++ [(-1, [])]) rfl (by k_units) F12 N12 (.head _) ?_ ?_ (by simp) ?_
      · intro p hp
        rcases List.mem_cons.mp hp with rfl | hp
        · exact .tail _ (.tail _ (.head _))
        · exact .tail _ (.tail _ (.tail _ (.tail _ (.tail _ (.tail _ (.tail _ (hRU p hp)))))))
      · exact ITs.snoc (d := (-1, [])) ⟨D', t9, t10, 0, rfl, .head _⟩ (hU.mono fun p hp => .tail _ hp)
      intro a ta tb ca h13 tk13 hma F13 N13
      clear F12 N12
      replace hma : (a, tO (.int (bestP t (65 + i)).1 ta) (.str (ofL (bestP t (65 + i)).2) tb) ca) ∈ (D', tO (.int (-1) t9) (.str (ofL []) t10) 0) :: U := hma
      replace N13 : News g L' h13 ((lF, W.listOf fs.toArray ep) :: (L' + 1 + 1, oS) :: (L' + 1, oT) :: ((Z, W.listOf (ys ++ [Value.ref D']).toArray 0) :: (l', W.listOf [Value.ref D'].toArray 0) :: (D', tO (.int (-1) t9) (.str (ofL []) t10) 0) :: (D, W.listOf ys.toArray ep6) :: R)) := KStt.news_of N13 fun p hp => by
        simp only [List.mem_cons] at hp ⊢
        rcases hp with h | h | h | h | h | h | h | h
        · exact .inr (.inr (.inr (.inl h)))
        · exact .inr (.inr (.inr (.inr (.inl h))))
        · exact .inr (.inr (.inr (.inr (.inr (.inl h)))))
        · exact .inl h
        · exact .inr (.inl h)
        · exact .inr (.inr (.inl h))
        · exact .inr (.inr (.inr (.inr (.inr (.inr (.inl h))))))
        · exact .inr (.inr (.inr (.inr (.inr (.inr (.inr h))))))
      have hR2 : ∀ p ∈ ((Z, W.listOf (ys ++ [Value.ref D']).toArray 0) :: (l', W.listOf [Value.ref D'].toArray 0) :: (D', tO (.int (-1) t9) (.str (ofL []) t10) 0) :: (D, W.listOf ys.toArray ep6) :: R), p.1 ≠ lF ∧ p.1 ≠ L' + 1 + 1 ∧ p.1 ≠ L' + 1 := by
        intro p hp
        rcases List.mem_cons.mp hp with rfl | hp
        · exact ⟨Ne.symm (Nat.ne_of_lt (lt11 _ (.tail _ (.tail _ (.head _))))), Ne.symm (Nat.ne_of_lt (lt11 _ (.tail _ (.tail _ (.tail _ (.head _)))))), Ne.symm (Nat.ne_of_lt (lt11 _ (.tail _ (.tail _ (.tail _ (.tail _ (.head _)))))))⟩
        rcases List.mem_cons.mp hp with rfl | hp
        · exact ⟨Ne.symm (Nat.ne_of_lt lt9.2.1), Ne.symm (Nat.ne_of_lt lt9.2.2.1), Ne.symm (Nat.ne_of_lt lt9.2.2.2.1)⟩
        rcases List.mem_cons.mp hp with rfl | hp
        · exact ⟨Ne.symm (Nat.ne_of_lt lt8.1), Ne.symm (Nat.ne_of_lt lt8.2.1), Ne.symm (Nat.ne_of_lt lt8.2.2.1)⟩
        rcases List.mem_cons.mp hp with rfl | hp
        · exact hD3
        · exact hR p hp
      have hma2 : (a, tO (.int (bestP t (65 + i)).1 ta) (.str (ofL (bestP t (65 + i)).2) tb) ca) ∈ ((Z, W.listOf (ys ++ [Value.ref D']).toArray 0) :: (l', W.listOf [Value.ref D'].toArray 0) :: (D', tO (.int (-1) t9) (.str (ofL []) t10) 0) :: (D, W.listOf ys.toArray ep6) :: R) := by
        rcases List.mem_cons.mp hma with e | hp
        · rw [e]; exact .tail _ (.tail _ (.head _))
        · exact .tail _ (.tail _ (.tail _ (.tail _ (hRU _ hp))))
      have hR2T : Sub T ((Z, W.listOf (ys ++ [Value.ref D']).toArray 0) :: (l', W.listOf [Value.ref D'].toArray 0) :: (D', tO (.int (-1) t9) (.str (ofL []) t10) 0) :: (D, W.listOf ys.toArray ep6) :: R) := hRT.cons.cons.cons.cons
      have hR2o : Sub own ((Z, W.listOf (ys ++ [Value.ref D']).toArray 0) :: (l', W.listOf [Value.ref D'].toArray 0) :: (D', tO (.int (-1) t9) (.str (ofL []) t10) 0) :: (D, W.listOf ys.toArray ep6) :: R) := hRo.cons.cons.cons.cons
      generalize ((Z, W.listOf (ys ++ [Value.ref D']).toArray 0) :: (l', W.listOf [Value.ref D'].toArray 0) :: (D', tO (.int (-1) t9) (.str (ofL []) t10) 0) :: (D, W.listOf ys.toArray ep6) :: R) = R2 at N13 hR2 hma2 hR2T hR2o
      clear hma lt8 lt9 lt11 hR hRU hRT hRo hD3 hU hUl hyl
      have hoff2 : OwnOff R2 [lF] := fun p hp b hb => by rw [List.mem_singleton.mp hb]; exact (hR2 p hp).1
      have hfsl := hP.len
      generalize hbp : bestP t (65 + i) = bp at hma2
      have hma3 : (a, tO (.int bp.1 ta) (.str (ofL bp.2) tb) ca) ∈ ((lF, W.listOf fs.toArray ep) :: (L' + 1 + 1, oS) :: (L' + 1, oT) :: R2) := .tail _ (.tail _ (.tail _ hma2))
      walk_at "ST"
      rename Fr _ _ _ _ => F14
      rename News _ _ _ _ => N14
      refine tupI0 N14 hma3 ?_ (by with_unfolding_all rfl) (by intro _; with_unfolding_all rfl)
      walk_at "ST"
      · rename bp.1 < -1 => hlt
        obtain ⟨b1, b2, hb2⟩ : ∃ b1 b2, bp.2 = [b1, b2] := by
          rw [← hbp]; exact bestP_two (by rw [hbp]; exact hlt)
        obtain ⟨bn, bq⟩ := bp
        dsimp only at hb2 hlt hma2 hma3 ⊢
        subst hb2
        rename Fr _ _ _ _ => F15
        rename News _ _ _ _ => N15
        refine tupI1 N15 hma3 ?_ (by with_unfolding_all rfl) (by intro _; with_unfolding_all rfl)
        walk_at "ST"
        rename Fr _ _ _ _ => F16
        rename News _ _ _ _ => N16
        refine put_spec C' F16 N16 (ALe.lvDeeper.mono (by decide)) (by omega) ?_
        intro h17 tk17 t17 F17 N17
        walk_at "ST"
        refine storeC (c := L' + 1) F17 N17 rfl (.tail _ (.tail _ (.head _))) hT rfl rfl ?_
        intro h18 oT' F18 N18f hT'
        have N18 := N18f ((lF, W.listOf fs.toArray ep) :: (L' + 1 + 1, oS) :: (L' + 1, oT') :: R2) (by
          intro p hp
          simp only [List.mem_cons] at hp ⊢
          rcases hp with rfl | rfl | rfl | hp
          · exact .inr ⟨.inl rfl, nFT⟩
          · exact .inr ⟨.inr (.inl rfl), nST⟩
          · exact .inl rfl
          · exact .inr ⟨.inr (.inr (.inr hp)), (hR2 p hp).2.2⟩)
        clear N18f
        (try clear F15); (try clear N15); (try clear F16); (try clear N16); (try clear F17); (try clear N17)
        replace F18 : Fr g L' h18 _ := F18
        replace N18 : News g L' h18 _ := N18
        replace hma3 : (a, tO (.int bn ta) (.str (ofL [b1, b2]) tb) ca) ∈ ((lF, W.listOf fs.toArray ep) :: (L' + 1 + 1, oS) :: (L' + 1, oT') :: R2) := .tail _ (.tail _ (.tail _ hma2))
        walk_at "ST"
        rename Fr _ _ _ _ => F19
        rename News _ _ _ _ => N19
        refine tupI1 N19 hma3 ?_ (by with_unfolding_all rfl) (by intro _; with_unfolding_all rfl)
        walk_at "ST"
        rename_i D' h20 l20 h21 F21 N21
        simp only [List.push_toArray] at N21
        obtain ⟨ep7, N22⟩ : ∃ ep7, News g L' h21 ((D', tO (.str (ofL [b1, b2]) tb) (.str (ofL [65 + i]) u) 0) :: (lF, W.listOf (fs ++ [Value.ref D']).toArray ep7) :: (L' + 1 + 1, oS) :: (L' + 1, oT') :: R2) := ⟨_, N21⟩
        refine ⟨_, _, _, (lF, W.listOf (fs ++ [Value.ref D']).toArray ep7) :: (L' + 1 + 1, oS) :: (L' + 1, oT') :: (D', tO (.str (ofL [b1, b2]) tb) (.str (ofL [65 + i]) u) 0) :: T, rfl, F21, KStt.news_of N22 ?_, ?_,
          ⟨put b1 b2 (65 + i) t, fs ++ [Value.ref D'], fd ++ [([b1, b2], [65 + i])], ep7, oS, oT', t17, (D', tO (.str (ofL [b1, b2]) tb) (.str (ofL [65 + i]) u) 0) :: T, rfl, hs.cons, ⟨_, hS⟩, hT', ?_, ?_, ?_, ?_, ?_, ⟨rfl, trivial⟩⟩⟩
        · intro p hp
          simp only [List.mem_cons, List.mem_append] at hp ⊢
          rcases hp with hp | hp | hp | hp | hp | hp
          · exact .inr (.inr (.inr (.inr (hR2o p hp))))
          · exact .inr (.inl hp)
          · exact .inr (.inr (.inl hp))
          · exact .inr (.inr (.inr (.inl hp)))
          · exact .inl hp
          · exact .inr (.inr (.inr (.inr (hR2T p hp))))
        · intro p hp
          rcases List.mem_cons.mp hp with rfl | hp
          · exact hne (lF, W.listOf fs.toArray ep) (.head _)
          rcases List.mem_cons.mp hp with rfl | hp
          · exact hne (L' + 1 + 1, oS) (.tail _ (.head _))
          rcases List.mem_cons.mp hp with rfl | hp
          · exact hne (L' + 1, oT) (.tail _ (.tail _ (.head _)))
          rcases List.mem_cons.mp hp with rfl | hp
          · exact Ne.symm (Nat.ne_of_lt (allLt_mem l20.2.2.2 _ (hR2o _ hoI)))
          · exact hne p (.tail _ (.tail _ (.tail _ hp)))
        · exact PTs.snoc (d := ([b1, b2], [65 + i])) ⟨D', tb, u, 0, rfl, .head _⟩ (hP.mono fun p hp => .tail _ hp)
        · rw [plainTo, ← he, stepP]
          dsimp only
          rw [hbp, if_pos hlt]
          rfl
        · have := put_len b1 b2 (65 + i) t
          omega
        · rw [List.length_append, List.length_singleton]; omega
        · intro p hp
          rcases List.mem_cons.mp hp with rfl | hp
          · exact ⟨Ne.symm (Nat.ne_of_lt l20.1), Ne.symm (Nat.ne_of_lt l20.2.1), Ne.symm (Nat.ne_of_lt l20.2.2.1)⟩
          · exact hoff p hp
      · rename ¬ (bp.1 < -1) => hlt
        rename Fr _ _ _ _ => F15
        rename News _ _ _ _ => N15
        refine ⟨_, _, _, (lF, W.listOf fs.toArray ep) :: (L' + 1 + 1, oS) :: (L' + 1, oT) :: T, rfl, F15, KStt.news_of N15 ?_, hne, ⟨t, fs, fd, ep, oS, oT, tt, T, rfl, hs, ⟨_, hS⟩, hT, hP, ?_, htl, by omega, hoff, ⟨rfl, trivial⟩⟩⟩
        · intro p hp
          simp only [List.mem_cons, List.mem_append] at hp ⊢
          rcases hp with hp | hp | hp | hp | hp
          · exact .inr (.inr (.inr (hR2o p hp)))
          · exact .inl hp
          · exact .inr (.inl hp)
          · exact .inr (.inr (.inl hp))
          · exact .inr (.inr (.inr (hR2T p hp)))
        · rw [plainTo, ← he, stepP]
          dsimp only
          rw [if_neg (by rw [hbp]; exact hlt)]
  · rintro m₁ nx h tk ⟨t, fs, fd, ep, oS, oT, tt, T, rfl, hs, ⟨v0, hS⟩, hT, hP, he, htl, hfl, hoff, hkn⟩ F3 N3
    clear F1 N1 hd1 hd2
    replace F3 := frKnows F3 hkn
    dsimp only [bl] at F3
    replace F3 : Fr g L' h _ := F3
    replace N3 : News g L' h _ := N3
    rw [← he] at hQ
    dsimp only at hQ
    walk_at "ST"
    rename_i D' h4 F4 N4 l4
    obtain ⟨t9, N5⟩ : ∃ t9, News g L' h4 ((D', tO (.str (ofL t) t9) (.ref lF) 0) :: (lF, W.listOf fs.toArray ep) :: (L' + 1 + 1, oS) :: (L' + 1, oT) :: T) := ⟨_, N4⟩
    dsimp only
    (try k_unfold)
    refine leaveK_ F4 (KStt.news_of N5 (b := (D', tO (.str (ofL t) t9) (.ref lF) 0) :: (lF, W.listOf fs.toArray ep) :: T) ?_) fun kF kN => ?_
    · intro p hp
      simp only [List.mem_cons] at hp ⊢
      rcases hp with hp | hp | hp
      · exact .inl hp
      · exact .inr (.inl hp)
      · exact .inr (.inr (.inr (.inr hp)))
    · exact hQ _ _ _ _ _ _ _ _ _ kF kN hs hP (fun p hp => ⟨Nat.ne_of_lt (allLt_mem l4.2.2.2 p hp), (hoff p hp).1⟩) (Ne.symm (Nat.ne_of_lt l4.1))
end Mine
end
section
open PySem PySem.W PyProof.Rows PySem.Calls
set_option maxRecDepth 100000
set_option maxHeartbeats 8000000
namespace Mine

def sdF (ds : List DT) (x : DT) (start pos : Nat) : List DT :=
  if start < pos then
    if ltD x (ds.getD ((pos - 1) / 2) dd) then sdF (ds.set pos (ds.getD ((pos - 1) / 2) dd)) x start ((pos - 1) / 2) else ds.set pos x
  else ds.set pos x
termination_by pos

local macro_rules | `(tactic| walk_at "ST") => `(tactic| repeat' (
  (fail_if_success (with_reducible show wpAny _ _ (exec (Stmt.While _ _ _ _) _) _ _ _));
  (fail_if_success (with_reducible show wpAny _ _ (exec (Stmt.For _ _ _ _ _) _) _ _ _));
  (fail_if_success (with_reducible show wpAny _ _ (pyIter _) _ _ _));
  (fail_if_success (with_reducible show wpAny _ _ (call (Value.ref _) _ _) _ _ _));
  first | (k_unfold; (try dsimp only)) | walk1 | (dsimp only; walk1)))
local macro_rules | `(tactic| walk_at "subscriptTail") => `(tactic| (k_here; (with_reducible show wpAny _ _ (subscriptTail _ _ (Value.ref _) (Value.int _ _)) _ _ _); (rename News _ _ _ _ => nM'); (refine item_M nM' (by assumption) ?i0 ?i1 ?i2 ?_; (case i0 => omega); (case i1 => omega); (case i2 => omega)); intro a' t1' t2' c' hm'))
local macro_rules | `(tactic| walk_at "compareOp Lt ref") => `(tactic| (k_here; (with_reducible show wpAny _ _ (compareOp CmpOp.Lt (Value.ref _) (Value.ref _)) _ _ _); (rename News _ _ _ _ => nM'); (refine lt_tup (by k_units) (subGet nM' (by assumption) (by assumption)) (subGet nM' (by assumption) (by assumption)) ?_)))
local macro_rules | `(tactic| walk_at "setItem ref int") => `(tactic| (k_here; (with_reducible show wpAny _ _ (setItem (Value.ref _) (Value.int _ _) (Value.ref _)) _ _ _); (rename Fr _ _ _ _ => fM'); (rename News _ _ _ _ => nM'); (refine set_M fM' nM' (by assumption) (by assumption) ⟨_, _, _, _, rfl, by assumption⟩ ?i0 ?i1 ?i2 ?_; (case i0 => omega); (case i1 => omega); (case i2 => omega)); intro h' F' N' hv'; (try k_sweep)))

local macro_rules | `(tactic| walk_at "binaryOp RShift int int") => `(tactic| (refine wpAny_rshift1_int (by omega) ?_))

theorem siftdown_spec {prog : Program} {w : World} {A : Around} {E : Value → Shared → Prop} {s : Shared} {h₀ : Heap} {L H : Addr} {m : Str → Option Value} {T T₀ : List (Addr × Obj)} {vs : List Value} {ds : List DT} {n : Nat}
    (C : Cx w h₀) (F : Fr h₀ L s.heap m) (N : News h₀ L s.heap ((H, W.listOf vs.toArray n) :: T)) (ho : OwnOff T [H]) (hs : Sub T₀ T) (hv : ITs T₀ vs ds) (hA : ALe A 700) {start pos : Nat} {t1 t2 : Tok} (hlen : ds.length ≤ 100000) (hpos : pos < ds.length)
    {Q : Value → Shared → Prop} (hQ : ∀ h' tk vs', Fr h₀ L h' m → News h₀ L h' ((H, W.listOf vs'.toArray n) :: T) → ITs T₀ vs' (sdF ds (ds.getD pos dd) start pos) → Q .none {s with heap := h', toks := tk}) :
    wpAny (model prog w) A (call (.ref 49) [.ref H, .int start t1, .int pos t2]) Q E s := by
  refine wpAny_lv hA (wpAny_call ?_)
  refine callM C F N (by k_is) (by k_is) (by decide) (BindsTo.of_eq rfl) (locs rfl) ?_
  clear F N C
  intro g L' h' C' F' N' l1
  obtain ⟨X', mg, mb, T'⟩ := C'
  try dsimp only
  k_fold
  walk_at "ST"
  rename Fr _ _ _ _ => F1
  rename News _ _ _ _ => N1
  rename_i xa x1 x2 xc hxm _
  rw [Int.toNat_natCast] at hxm
  generalize hx : ds.getD pos dd = x at hxm hQ
  refine While_inv2 (n₀ := pos) (fun j m₁ nx => ∃ (vs1 : List Value) (ds1 : List DT) (p : Nat) (t : Tok), nx = (H, W.listOf vs1.toArray n) :: T ∧ ITs T₀ vs1 ds1 ∧ ds1.length = ds.length ∧
    Knows m₁ [(Str.ofString "heap", .ref H), (Str.ofString "startpos", .int start t1), (Str.ofString "pos", .int p t), (Str.ofString "newitem", .ref xa)] ∧ p < ds.length ∧ sdF ds1 x start p = sdF ds x start pos ∧ j = p) F1 N1 ?_ ?_
  · exact ⟨vs, ds, pos, t2, rfl, hv, rfl, ⟨rfl, rfl, rfl, rfl, trivial⟩, hpos, rfl, rfl⟩
  clear F1 N1 hv
  rintro j m₁ nx h₁ tk₁ F1 N1 ⟨vs1, ds1, p, t, rfl, hv, hl, hkn, hp, he, rfl⟩
  replace F1 := frKnows F1 hkn
  dsimp only [bl] at F1
  clear hkn
  rw [← hl] at hp
  have hjn : (j : Int).toNat = j := Int.toNat_natCast j
  have hpn : (((j : Int) - 1) / 2).toNat = (j - 1) / 2 := by omega
  walk_at "ST"
  · dsimp only [WhileStep2]
    rename (start : Int) < (j : Int) => hsj
    rename ltD _ _ = true => hlt
    rename ITs _ (List.set _ _ _) _ => hv2
    rename News _ _ _ _ => N2
    rw [hjn] at hv2 N2
    rw [hpn] at hv2 hlt
    have hpq : ((j : Int) - 1) / 2 = (((j - 1) / 2 : Nat) : Int) := by omega
    refine ⟨_, _, _, _, (j - 1) / 2, rfl, by assumption, N2, by omega, _, _, (j - 1) / 2, _, rfl, hv2, by simp [hl], ⟨rfl, rfl, congrArg (fun z => some (Value.int z _)) hpq, rfl, trivial⟩, by omega, ?_, rfl⟩
    · rw [← he, sdF.eq_1 ds1 x start j, if_pos (by omega), if_pos hlt]
  · dsimp only [WhileStep2]
    rename (start : Int) < (j : Int) => hsj
    rename ltD _ _ = false => hlt
    rw [hpn] at hlt
    walk_at "ST"
    rename ITs _ (List.set _ _ _) _ => hv2
    rename News _ _ _ _ => N2
    rename Fr _ _ _ _ => F2
    rw [hjn] at hv2 N2
    refine leaveK_ F2 N2 fun kF kN => ?_
    refine hQ _ _ _ kF kN ?_
    rw [← he, sdF.eq_1 ds1 x start j, if_pos (by omega), if_neg (by rw [hlt]; exact Bool.false_ne_true)]
    exact hv2
  · rename ¬ ((start : Int) < (j : Int)) => hsj
    rename ITs _ (List.set _ _ _) _ => hv2
    rename News _ _ _ _ => N2
    rename Fr _ _ _ _ => F2
    rw [hjn] at hv2 N2
    refine leaveK_ F2 N2 fun kF kN => ?_
    refine hQ _ _ _ kF kN ?_
    rw [← he, sdF.eq_1 ds1 x start j, if_neg (by omega)]
    exact hv2
end Mine
end
section
open PySem PySem.W PyProof.Rows PySem.Calls
set_option maxRecDepth 100000
set_option maxHeartbeats 8000000
namespace Mine

def suC (ds : List DT) (pos : Nat) : Nat :=
  if 2 * pos + 2 < ds.length ∧ ltD (ds.getD (2 * pos + 1) dd) (ds.getD (2 * pos + 2) dd) = false then 2 * pos + 2 else 2 * pos + 1
theorem suC_gt (ds : List DT) (pos : Nat) : pos < suC ds pos := by unfold suC; split <;> omega
def suF (ds : List DT) (pos : Nat) : List DT × Nat :=
  if 2 * pos + 1 < ds.length then suF (ds.set pos (ds.getD (suC ds pos) dd)) (suC ds pos) else (ds, pos)
termination_by ds.length - pos
decreasing_by
  have := suC_gt ds pos
  simp only [List.length_set]
  omega
def sup (ds : List DT) (pos : Nat) : List DT := sdF ((suF ds pos).1.set (suF ds pos).2 (ds.getD pos dd)) (ds.getD pos dd) pos (suF ds pos).2

local macro_rules | `(tactic| walk_at "ST") => `(tactic| repeat' (
  (fail_if_success (with_reducible show wpAny _ _ (exec (Stmt.While _ _ _ _) _) _ _ _));
  (fail_if_success (with_reducible show wpAny _ _ (exec (Stmt.For _ _ _ _ _) _) _ _ _));
  (fail_if_success (with_reducible show wpAny _ _ (pyIter _) _ _ _));
  (fail_if_success (with_reducible show wpAny _ _ (call (Value.ref _) _ _) _ _ _));
  first | (k_unfold; (try dsimp only)) | walk1 | (dsimp only; walk1)))
local macro_rules | `(tactic| walk_at "subscriptTail") => `(tactic| (k_here; (with_reducible show wpAny _ _ (subscriptTail _ _ (Value.ref _) (Value.int _ _)) _ _ _); (rename News _ _ _ _ => nM'); (refine item_M nM' (by assumption) ?i0 ?i1 ?i2 ?_; (case i0 => omega); (case i1 => omega); (case i2 => omega)); intro a' t1' t2' c' hm'))
local macro_rules | `(tactic| walk_at "compareOp Lt ref") => `(tactic| (k_here; (with_reducible show wpAny _ _ (compareOp CmpOp.Lt (Value.ref _) (Value.ref _)) _ _ _); (rename News _ _ _ _ => nM'); (refine lt_tup (by k_units) (subGet nM' (by assumption) (by assumption)) (subGet nM' (by assumption) (by assumption)) ?_)))
local macro_rules | `(tactic| walk_at "setItem ref int") => `(tactic| (k_here; (with_reducible show wpAny _ _ (setItem (Value.ref _) (Value.int _ _) (Value.ref _)) _ _ _); (rename Fr _ _ _ _ => fM'); (rename News _ _ _ _ => nM'); (refine set_M fM' nM' (by assumption) (by assumption) ⟨_, _, _, _, rfl, by assumption⟩ ?i0 ?i1 ?i2 ?_; (case i0 => omega); (case i1 => omega); (case i2 => omega)); intro h' F' N' hv'; (try k_sweep)))

local macro_rules | `(tactic| walk_at "binaryOp RShift int int") => `(tactic| (refine wpAny_rshift1_int (by omega) ?_))

local macro_rules | `(tactic| walk_at "call builtin:len") => `(tactic| (k_here; (with_reducible show wpAny _ _ (call (Value.builtin _) [Value.ref _]) _ _ _); (rename News _ _ _ _ => nM'); (refine len_M nM' (by assumption) (by omega) ?_)))

theorem siftup_spec {prog : Program} {w : World} {A : Around} {E : Value → Shared → Prop} {s : Shared} {h₀ : Heap} {L H : Addr} {m : Str → Option Value} {T T₀ : List (Addr × Obj)} {vs : List Value} {ds : List DT} {n : Nat}
    (C : Cx w h₀) (F : Fr h₀ L s.heap m) (N : News h₀ L s.heap ((H, W.listOf vs.toArray n) :: T)) (ho : OwnOff T [H]) (hs : Sub T₀ T) (hv : ITs T₀ vs ds) (hA : ALe A 600) {pos : Nat} {t1 : Tok} (hlen : ds.length ≤ 100000) (hpos : pos < ds.length)
    {Q : Value → Shared → Prop} (hQ : ∀ h' tk vs', Fr h₀ L h' m → News h₀ L h' ((H, W.listOf vs'.toArray n) :: T) → ITs T₀ vs' (sup ds pos) → Q .none {s with heap := h', toks := tk}) :
    wpAny (model prog w) A (call (.ref 56) [.ref H, .int pos t1]) Q E s := by
  refine wpAny_lv hA (wpAny_call ?_)
  refine callM C F N (by k_is) (by k_is) (by decide) (BindsTo.of_eq rfl) (locs rfl) ?_
  clear F N C
  intro g L' h' C' F' N' l1
  obtain ⟨X', mg, mb, T'⟩ := id C'
  try dsimp only
  k_fold
  have hvl := hv.len
  walk_at "ST"
  rename Fr _ _ _ _ => F1
  rename News _ _ _ _ => N1
  rename_i xa x1 x2 xc hxm _ _
  rw [Int.toNat_natCast] at hxm
  generalize hx : ds.getD pos dd = x at hxm
  refine While_inv2 (n₀ := ds.length - pos) (fun j m₁ nx => ∃ (vs1 : List Value) (ds1 : List DT) (p : Nat) (c : Int) (te tp tc : Tok), nx = (H, W.listOf vs1.toArray n) :: T ∧ ITs T₀ vs1 ds1 ∧ ds1.length = ds.length ∧ c = 2 * (p : Int) + 1 ∧
    Knows m₁ [(Str.ofString "heap", .ref H), (Str.ofString "endpos", .int (ds.length : Int) te), (Str.ofString "startpos", .int pos t1), (Str.ofString "newitem", .ref xa), (Str.ofString "pos", .int p tp), (Str.ofString "childpos", .int c tc)] ∧ p < ds.length ∧ suF ds1 p = suF ds pos ∧ j = ds.length - p) F1 N1 ?_ ?_
  · exact ⟨vs, ds, pos, _, _, _, _, rfl, hv, rfl, rfl, ⟨rfl, rfl, rfl, rfl, rfl, rfl, trivial⟩, hpos, rfl, rfl⟩
  clear F1 N1 hv hvl
  rintro j m₁ nx h₁ tk₁ F1 N1 ⟨vs1, ds1, p, c, te, tp, tc, rfl, hv, hl, hc, hkn, hp, he, rfl⟩
  replace F1 := frKnows F1 hkn
  dsimp only [bl] at F1
  clear hkn
  have hjn : (p : Int).toNat = p := Int.toNat_natCast p
  walk_at "ST"
  · dsimp only [WhileStep2]
    rename ltD _ _ = true => hlt
    rename c + 1 < _ => hr
    have hq : suC ds1 p = 2 * p + 1 := by
      have e1 : c.toNat = 2 * p + 1 := by omega
      have e2 : (c + 1).toNat = 2 * p + 2 := by omega
      rw [e1, e2] at hlt
      unfold suC
      rw [if_neg]
      rintro ⟨_, h2⟩
      rw [hlt] at h2; exact Bool.noConfusion h2
    rename ITs _ (List.set _ _ _) _ => hv2
    rename News _ _ _ _ => N2
    rw [hjn] at hv2 N2
    have hck : (c : Int) = ((suC ds1 p : Nat) : Int) := by rw [hq]; omega
    have hcn : (c : Int).toNat = suC ds1 p := by rw [hq]; omega
    rw [hcn] at hv2
    refine ⟨_, _, _, _, ds.length - suC ds1 p, rfl, by assumption, N2, by omega, _, _, suC ds1 p, _, _, _, _, rfl, hv2, by simp [hl], ?_, ⟨rfl, rfl, rfl, rfl, congrArg (fun z => some (Value.int z _)) hck, rfl, trivial⟩, by omega, ?_, rfl⟩
    · rw [hck]
    · rw [← he, suF.eq_1 ds1 p, if_pos (by omega)]
  · dsimp only [WhileStep2]
    rename ltD _ _ = false => hlt
    rename c + 1 < _ => hr
    have hq : suC ds1 p = 2 * p + 2 := by
      have e1 : c.toNat = 2 * p + 1 := by omega
      have e2 : (c + 1).toNat = 2 * p + 2 := by omega
      rw [e1, e2] at hlt
      unfold suC
      rw [if_pos ⟨by omega, hlt⟩]
    rename ITs _ (List.set _ _ _) _ => hv2
    rename News _ _ _ _ => N2
    rw [hjn] at hv2 N2
    have hck : (c + 1 : Int) = ((suC ds1 p : Nat) : Int) := by rw [hq]; omega
    have hcn : (c + 1 : Int).toNat = suC ds1 p := by rw [hq]; omega
    rw [hcn] at hv2
    refine ⟨_, _, _, _, ds.length - suC ds1 p, rfl, by assumption, N2, by omega, _, _, suC ds1 p, _, _, _, _, rfl, hv2, by simp [hl], ?_, ⟨rfl, rfl, rfl, rfl, congrArg (fun z => some (Value.int z _)) hck, rfl, trivial⟩, by omega, ?_, rfl⟩
    · rw [hck]
    · rw [← he, suF.eq_1 ds1 p, if_pos (by omega)]
  · dsimp only [WhileStep2]
    rename ¬ (c + 1 < _) => hr
    have hq : suC ds1 p = 2 * p + 1 := by
      unfold suC
      rw [if_neg]
      rintro ⟨h2, _⟩
      omega
    rename ITs _ (List.set _ _ _) _ => hv2
    rename News _ _ _ _ => N2
    rw [hjn] at hv2 N2
    have hck : (c : Int) = ((suC ds1 p : Nat) : Int) := by rw [hq]; omega
    have hcn : (c : Int).toNat = suC ds1 p := by rw [hq]; omega
    rw [hcn] at hv2
    refine ⟨_, _, _, _, ds.length - suC ds1 p, rfl, by assumption, N2, by omega, _, _, suC ds1 p, _, _, _, _, rfl, hv2, by simp [hl], ?_, ⟨rfl, rfl, rfl, rfl, congrArg (fun z => some (Value.int z _)) hck, rfl, trivial⟩, by omega, ?_, rfl⟩
    · rw [hck]
    · rw [← he, suF.eq_1 ds1 p, if_pos (by omega)]
  · rename ¬ (c < _) => hcl
    rename ITs _ (List.set _ _ _) _ => hv2
    rename News _ _ _ _ => N2
    rename Fr _ _ _ _ => F2
    rw [hjn] at hv2 N2
    have e1 : suF ds1 p = (ds1, p) := by rw [suF.eq_1, if_neg (by omega)]
    refine siftdown_spec C' F2 N2 ho hs hv2 (ALe.lvDeeper.mono (by decide)) (by simp [hl]; omega) (by simp [hl]; omega) ?_
    intro h3 tk3 vs3 F3 N3 hv3
    walk_at "ST"
    refine leaveK_ F3 N3 fun kF kN => ?_
    refine hQ _ _ _ kF kN ?_
    have e2 : (ds1.set p x).getD p dd = x := by
      rw [List.getD_eq_getElem?_getD, List.getElem?_set_self (by omega)]; rfl
    rw [e2] at hv3
    unfold sup
    rw [← he, e1, hx]
    exact hv3
end Mine
end
section
open PySem PySem.W PyProof.Rows PySem.Calls
set_option maxRecDepth 100000
set_option maxHeartbeats 8000000
namespace Mine

def hpop (ds : List DT) : List DT := if ds.length ≤ 1 then [] else sup (ds.dropLast.set 0 (ds.getD (ds.length - 1) dd)) 0
local macro_rules | `(tactic| walk_at "ST") => `(tactic| repeat' (
  (fail_if_success (with_reducible show wpAny _ _ (exec (Stmt.While _ _ _ _) _) _ _ _));
  (fail_if_success (with_reducible show wpAny _ _ (exec (Stmt.For _ _ _ _ _) _) _ _ _));
  (fail_if_success (with_reducible show wpAny _ _ (pyIter _) _ _ _));
  (fail_if_success (with_reducible show wpAny _ _ (call (Value.ref _) _ _) _ _ _));
  first | (k_unfold; (try dsimp only)) | walk1 | (dsimp only; walk1)))
local macro_rules | `(tactic| walk_at "subscriptTail") => `(tactic| (k_here; (with_reducible show wpAny _ _ (subscriptTail _ _ (Value.ref _) (Value.int _ _)) _ _ _); (rename News _ _ _ _ => nM'); (refine item_M nM' (by assumption) ?i0 ?i1 ?i2 ?_; (case i0 => omega); (case i1 => omega); (case i2 => omega)); intro a' t1' t2' c' hm'))
local macro_rules | `(tactic| walk_at "compareOp Lt ref") => `(tactic| (k_here; (with_reducible show wpAny _ _ (compareOp CmpOp.Lt (Value.ref _) (Value.ref _)) _ _ _); (rename News _ _ _ _ => nM'); (refine lt_tup (by k_units) (subGet nM' (by assumption) (by assumption)) (subGet nM' (by assumption) (by assumption)) ?_)))
local macro_rules | `(tactic| walk_at "setItem ref int") => `(tactic| (k_here; (with_reducible show wpAny _ _ (setItem (Value.ref _) (Value.int _ _) (Value.ref _)) _ _ _); (rename Fr _ _ _ _ => fM'); (rename News _ _ _ _ => nM'); (refine set_M fM' nM' (by assumption) (by assumption) ⟨_, _, _, _, rfl, by assumption⟩ ?i0 ?i1 ?i2 ?_; (case i0 => omega); (case i1 => omega); (case i2 => omega)); intro h' F' N' hv'; (try k_sweep)))

local macro_rules | `(tactic| walk_at "binaryOp RShift int int") => `(tactic| (refine wpAny_rshift1_int (by omega) ?_))

local macro_rules | `(tactic| walk_at "call builtin:len") => `(tactic| (k_here; (with_reducible show wpAny _ _ (call (Value.builtin _) [Value.ref _]) _ _ _); (rename News _ _ _ _ => nM'); (refine len_M nM' (by assumption) (by first | omega | (simp only [List.length_append, List.length_cons, List.length_nil, List.length_dropLast]; omega)) ?_)))

local macro_rules | `(tactic| walk_at "call builtin:list.append") => `(tactic| (k_here; (with_reducible show wpAny _ _ (call (Value.builtin _) [Value.ref _, _]) _ _ _); (rename Fr _ _ _ _ => fM'); (rename News _ _ _ _ => nM'); k_dflt (refine append_M fM' nM' (by assumption) (by assumption) ⟨_, _, _, _, rfl, by assumption⟩ (by omega) ?_); intro h' F' N' hv'; (try k_sweep)))
local macro_rules | `(tactic| walk_at "call builtin:list.pop") => `(tactic| (k_here; (try dsimp only); (with_reducible show wpAny _ _ (call (Value.builtin _) [Value.ref _]) _ _ _); (rename Fr _ _ _ _ => fM'); (rename News _ _ _ _ => nM'); k_dflt (refine pop_M fM' nM' (by assumption) (by assumption) (by omega) (by omega) ?_); intro h' a' t1' t2' c' hm' F' N' hv'; (try k_sweep)))
local macro_rules | `(tactic| walk_at "truthy ref") => `(tactic| (k_here; (with_reducible show wpAny _ _ (truthy (Value.ref _)) _ _ _); (rename News _ _ _ _ => nM'); (refine truthy_M nM' (by assumption) (by first | omega | (simp only [List.length_dropLast]; omega)) ?_)))

theorem heappush_spec {prog : Program} {w : World} {A : Around} {E : Value → Shared → Prop} {s : Shared} {h₀ : Heap} {L H : Addr} {m : Str → Option Value} {T T₀ : List (Addr × Obj)} {vs : List Value} {ds : List DT} {n : Nat}
    (C : Cx w h₀) (F : Fr h₀ L s.heap m) (N : News h₀ L s.heap ((H, W.listOf vs.toArray n) :: T)) (ho : OwnOff T [H]) (hs : Sub T₀ T) (hv : ITs T₀ vs ds) (hA : ALe A 500) {x : Addr} {d : DT} {u1 u2 : Tok} {c : Nat} (hx : (x, tO (.int d.1 u1) (.str (ofL d.2) u2) c) ∈ T₀) (hlen : ds.length ≤ 50000)
    {Q : Value → Shared → Prop} (hQ : ∀ h' tk vs' n', Fr h₀ L h' m → News h₀ L h' ((H, W.listOf vs'.toArray n') :: T) → ITs T₀ vs' (sdF (ds ++ [d]) d 0 ds.length) → Q .none {s with heap := h', toks := tk}) :
    wpAny (model prog w) A (call (.ref 21) [.ref H, .ref x]) Q E s := by
  refine wpAny_lv hA (wpAny_call ?_)
  refine callM C F N (by k_is) (by k_is) (by decide) (BindsTo.of_eq rfl) (locs rfl) ?_
  clear F N C
  intro g L' h' C' F' N' l1
  obtain ⟨X', mg, mb, T'⟩ := id C'
  try dsimp only
  k_fold
  have hvl := hv.len
  walk_at "ST"
  rename ITs _ (_ ++ _) _ => hv2
  rename News _ _ _ _ => N2
  rename Fr _ _ _ _ => F2
  have e0 : ((ds ++ [d]).length : Int) - 1 = (ds.length : Int) := by simp
  rw [e0]
  refine siftdown_spec (start := 0) (pos := ds.length) C' F2 N2 ho hs hv2 (ALe.lvDeeper.mono (by decide)) (by simp; omega) (by simp) ?_
  intro h3 tk3 vs3 F3 N3 hv3
  walk_at "ST"
  refine leaveK_ F3 N3 fun kF kN => ?_
  refine hQ _ _ _ _ kF kN ?_
  have e2 : (ds ++ [d]).getD ds.length dd = d := by simp
  rw [e2] at hv3
  exact hv3
theorem heappop_spec {prog : Program} {w : World} {A : Around} {E : Value → Shared → Prop} {s : Shared} {h₀ : Heap} {L H : Addr} {m : Str → Option Value} {T T₀ : List (Addr × Obj)} {vs : List Value} {ds : List DT} {n : Nat}
    (C : Cx w h₀) (F : Fr h₀ L s.heap m) (N : News h₀ L s.heap ((H, W.listOf vs.toArray n) :: T)) (ho : OwnOff T [H]) (hs : Sub T₀ T) (hv : ITs T₀ vs ds) (hA : ALe A 500) (hlen : ds.length ≤ 50000) (hne : ds ≠ [])
    {Q : Value → Shared → Prop} (hQ : ∀ h' tk vs' n' a t1 t2 c, Fr h₀ L h' m → News h₀ L h' ((H, W.listOf vs'.toArray n') :: T) → (a, tO (.int (ds.getD 0 dd).1 t1) (.str (ofL (ds.getD 0 dd).2) t2) c) ∈ T₀ → ITs T₀ vs' (hpop ds) → Q (.ref a) {s with heap := h', toks := tk}) :
    wpAny (model prog w) A (call (.ref 28) [.ref H]) Q E s := by
  refine wpAny_lv hA (wpAny_call ?_)
  refine callM C F N (by k_is) (by k_is) (by decide) (BindsTo.of_eq rfl) (locs rfl) ?_
  clear F N C
  intro g L' h' C' F' N' l1
  obtain ⟨X', mg, mb, T'⟩ := id C'
  try dsimp only
  k_fold
  have hvl := hv.len
  have hn0 : 0 < ds.length := List.length_pos_iff.mpr hne
  walk_at "ST"
  · rename ITs _ (List.set _ _ _) _ => hv2
    rename News _ _ _ _ => N2
    rename Fr _ _ _ _ => F2
    rename 0 < ds.dropLast.length => hdl
    rename_i hm2 _ _
    rw [List.length_dropLast] at hdl
    refine siftup_spec (pos := 0) C' F2 N2 ho hs hv2 (ALe.lvDeeper.mono (by decide)) (by simp; omega) (by simp; omega) ?_
    intro h3 tk3 vs3 F3 N3 hv3
    walk_at "ST"
    dsimp only
    k_unfold
    refine leaveK_ F3 N3 fun kF kN => ?_
    have e1 : ds.dropLast.getD 0 dd = ds.getD 0 dd := by
      rw [List.dropLast_eq_take, List.getD_eq_getElem?_getD, List.getD_eq_getElem?_getD, List.getElem?_take_of_lt (by omega)]
    rw [show Int.toNat 0 = 0 from rfl, e1] at hm2
    refine hQ _ _ _ _ _ _ _ _ kF kN hm2 ?_
    unfold hpop
    rw [if_neg (by omega)]
    exact hv3
  · dsimp only
    k_unfold
    rename News _ _ _ _ => N2
    rename Fr _ _ _ _ => F2
    rename ¬ (0 < ds.dropLast.length) => hdl
    rename ITs _ vs.dropLast _ => hv2
    rename (_, tO (Value.int (ds.getD (ds.length - 1) dd).1 _) _ _) ∈ T₀ => hm2
    rw [List.length_dropLast] at hdl
    have e0 : ds.length - 1 = 0 := by omega
    rw [e0] at hm2
    refine leaveK_ F2 N2 fun kF kN => ?_
    refine hQ _ _ _ _ _ _ _ _ kF kN hm2 ?_
    unfold hpop
    rw [if_pos (by omega)]
    have e3 : ds.dropLast = [] := List.length_eq_zero_iff.mp (by rw [List.length_dropLast]; omega)
    rw [e3] at hv2
    exact hv2
theorem heapreplace_spec {prog : Program} {w : World} {A : Around} {E : Value → Shared → Prop} {s : Shared} {h₀ : Heap} {L H : Addr} {m : Str → Option Value} {T T₀ : List (Addr × Obj)} {vs : List Value} {ds : List DT} {n : Nat}
    (C : Cx w h₀) (F : Fr h₀ L s.heap m) (N : News h₀ L s.heap ((H, W.listOf vs.toArray n) :: T)) (ho : OwnOff T [H]) (hs : Sub T₀ T) (hv : ITs T₀ vs ds) (hA : ALe A 500) {x : Addr} {d : DT} {u1 u2 : Tok} {c : Nat} (hx : (x, tO (.int d.1 u1) (.str (ofL d.2) u2) c) ∈ T₀) (hlen : ds.length ≤ 50000) (hne : ds ≠ [])
    {Q : Value → Shared → Prop} (hQ : ∀ h' tk vs' a t1 t2 c, Fr h₀ L h' m → News h₀ L h' ((H, W.listOf vs'.toArray n) :: T) → (a, tO (.int (ds.getD 0 dd).1 t1) (.str (ofL (ds.getD 0 dd).2) t2) c) ∈ T₀ → ITs T₀ vs' (sup (ds.set 0 d) 0) → Q (.ref a) {s with heap := h', toks := tk}) :
    wpAny (model prog w) A (call (.ref 35) [.ref H, .ref x]) Q E s := by
  refine wpAny_lv hA (wpAny_call ?_)
  refine callM C F N (by k_is) (by k_is) (by decide) (BindsTo.of_eq rfl) (locs rfl) ?_
  clear F N C
  intro g L' h' C' F' N' l1
  obtain ⟨X', mg, mb, T'⟩ := id C'
  try dsimp only
  k_fold
  have hvl := hv.len
  have hn0 : 0 < ds.length := List.length_pos_iff.mpr hne
  walk_at "ST"
  rename ITs _ (List.set _ _ _) _ => hv2
  rename News _ _ _ _ => N2
  rename Fr _ _ _ _ => F2
  rename_i hm2 _ _
  refine siftup_spec (pos := 0) C' F2 N2 ho hs hv2 (ALe.lvDeeper.mono (by decide)) (by simp; omega) (by simp; omega) ?_
  intro h3 tk3 vs3 F3 N3 hv3
  walk_at "ST"
  refine leaveK_ F3 N3 fun kF kN => ?_
  exact hQ _ _ _ _ _ _ _ kF kN hm2 hv3
end Mine
end
section
open PySem PySem.W PyProof.Rows PySem.Calls
set_option maxRecDepth 100000
set_option maxHeartbeats 8000000
namespace Mine
theorem sub_ri_reversed : isSubtype (.type "range_iterator") (.type "reversed") = pure false := by rw [isSubtype_type]; kernel_rfl
def riObj (x n c : Int) : Obj := { cls := .type "range_iterator", data := .fields #[rawInt x, rawInt n, rawInt c] }
section
variable {prog : Program} {w : World} {A : Around} {E : Value → Shared → Prop} {s : Shared}
theorem range_reversed_meets (r : Addr) (a b c : Int) (t u v : Tok) (hc0 : ¬ (!(Builtin.Range.rangeFitsLong a && Builtin.Range.rangeFitsLong b && Builtin.Range.rangeFitsLong c && Builtin.Range.rangeFitsLong (-c) && Builtin.Range.rangeFitsLong (a - c) && Builtin.Range.rangeFitsLong (Builtin.Range.rangeSize a b c))) = true) :
    Meets (Builtin.«range.__reversed__» ⟨[.ref r], []⟩) (fun _ R s => s.heap.get? r = some { cls := .type "range", dict := none, data := .fields #[.int a t, .int b u, .int c v], slots := #[] } ∧ R (.ok (.ret (Value.ref s.heap.objs.size))) { s with heap := s.heap.push { cls := Value.type (if (Builtin.Range.rangeFitsLong a && Builtin.Range.rangeFitsLong b && Builtin.Range.rangeFitsLong c && Builtin.Range.rangeFitsLong (-c) && Builtin.Range.rangeFitsLong (a - c) && Builtin.Range.rangeFitsLong (Builtin.Range.rangeSize a b c)) = true then "range_iterator" else "longrange_iterator"), data := Data.fields #[rawInt (a + (Builtin.Range.rangeSize a b c - 1) * c), rawInt (Builtin.Range.rangeSize a b c), rawInt (-c)] }, toks := s.toks }) :=
  .of_wp fun prog w A R s h => by obtain ⟨hp, g, d, tk, os⟩ := s; obtain ⟨hl, h⟩ := h; wp_walk; exact ⟨_, rfl, h⟩
theorem call_range_reversed {r : Addr} {k : Nat} {t u v : Tok} {Q : Value → Shared → Prop} (hr : IsRange s.heap r 0 (k : Int) 1 t u v) (hk : k < 1000000)
    (h : Q (.ref s.heap.objs.size) { s with heap := s.heap.push (riObj ((k : Int) - 1) k (-1)) }) : wpAny (model prog w) A (call (.builtin "range.__reversed__") [.ref r]) Q E s := by
  have hT : s.TypeIs (.ref r) "range" := ⟨_, hr, rfl⟩
  have e1 : Builtin.Range.rangeSize 0 (k : Int) 1 = (k : Int) := by rw [rangeSize_nat]; omega
  have e2 : (Builtin.Range.rangeFitsLong 0 && Builtin.Range.rangeFitsLong (k : Int) && Builtin.Range.rangeFitsLong 1 && Builtin.Range.rangeFitsLong (-1) && Builtin.Range.rangeFitsLong (0 - 1) && Builtin.Range.rangeFitsLong (Builtin.Range.rangeSize 0 (k : Int) 1)) = true := by
    rw [e1]
    simp only [Builtin.Range.rangeFitsLong, Bool.and_eq_true, decide_eq_true_eq]
    omega
  refine call_meets F.slot_range_reversed hT F.entry_range_reversed (F.args_range_reversed_1 _) (range_reversed_meets r 0 k 1 t u v (by rw [e2]; decide)) ⟨hr, ?_⟩
  have e3 : (0 : Int) + (Builtin.Range.rangeSize 0 (k : Int) 1 - 1) * 1 = (k : Int) - 1 := by rw [e1]; omega
  rw [e2, e3, e1]
  exact h
theorem code_reversed_new_range {r : Addr} {k : Nat} {t u v : Tok} {Q₁ : Value → Shared → Prop} (hr : IsRange s.heap r 0 (k : Int) 1 t u v) (hk : k < 1000000)
    (h : Q₁ (.ref s.heap.objs.size) { s with heap := s.heap.push (riObj ((k : Int) - 1) k (-1)) }) :
    codeAny (model prog w) A (.call (.builtin "reversed.__new__") ⟨[.type "reversed", .ref r], []⟩) (wants Q₁ E) s := by
  have hT : s.TypeIs (.ref r) "range" := ⟨_, hr, rfl⟩
  refine codeAny_of_tree ?_
  show wpAny _ A.in1 (do checkBuiltinCall "reversed.__new__" ⟨[.type "reversed", .ref r], []⟩; again (.builtin "reversed.__new__" ⟨[.type "reversed", .ref r], []⟩)) _ _ s
  refine wpAny_bind (wpAny_of_eq (F.newCall_reversed_1 _) (wpAny_pure ⟨plainId_quiet F.plain_reversed_new _, codeAny_builtin F.entry_reversed_new ?_⟩))
  rw [Around.under_plainId F.plain_reversed_new _]
  unfold Builtin.«reversed.__new__»
  refine wpAny_bind (wpAny_of_eq (newClass_reversed _) ?_)
  try dsimp only
  refine wpAny_bind (wpAny_of_eq (a := ()) (by first | rfl | kernel_rfl) ?_)
  refine wpAny_bind (wpAny_of_eq (a := ()) (by first | rfl | kernel_rfl) ?_)
  try dsimp only
  refine wpAny_bind (wpAny_specialOf hT F.slot_range_reversed.lookup ?_)
  try dsimp only
  refine wpAny_bind (wpAny_of_eq (F.slot_range_reversed.bind _) ?_)
  try dsimp only
  first
  | rw [if_neg (show ¬ ((Value.builtin "range.__reversed__" == Value.none) = true) from Bool.false_ne_true)]
  | (show wpAny _ _ (if (Value.builtin "range.__reversed__" == Value.none) = true then _ else _) _ _ _; rw [if_neg (show ¬ ((Value.builtin "range.__reversed__" == Value.none) = true) from Bool.false_ne_true)])
  refine wpAny_bind (wpAny_rule ?_)
  refine wpAny_bind (m := runValue (.call (.builtin "range.__reversed__") ⟨[.ref r], []⟩)) (show wpAny _ _ (call (.builtin "range.__reversed__") [.ref r]) _ _ _ from call_range_reversed hr hk ?_)
  first
  | exact wpAny_pure h
  | exact wpAny_bind (wpAny_pure (wpAny_pure h))
theorem call_reversed_range {r : Addr} {k : Nat} {t u v : Tok} {Q : Value → Shared → Prop} (hr : IsRange s.heap r 0 (k : Int) 1 t u v) (hk : k < 1000000)
    (h : Q (.ref s.heap.objs.size) { s with heap := s.heap.push (riObj ((k : Int) - 1) k (-1)) }) : wpAny (model prog w) A (call (.type "reversed") [.ref r]) Q E s := by
  refine callType_other (U := "range_iterator") (Q₁ := fun obj s₁ => obj = .ref s.heap.objs.size ∧ s₁ = { s with heap := s.heap.push (riObj ((k : Int) - 1) k (-1)) }) (by decide +kernel) F.create_reversed ⟨_, _, F.mro_reversed⟩ F.made_reversed sub_ri_reversed (F.typeCall_reversed_1 _) (code_reversed_new_range hr hk ⟨rfl, rfl⟩) ?_
  rintro obj s₁ ⟨rfl, rfl⟩
  exact ⟨⟨_, Heap.get?_push_size _ rfl, rfl⟩, h⟩
end
end Mine
end
section
open PySem PySem.W PyProof.Rows PySem.Calls
set_option maxRecDepth 100000
set_option maxHeartbeats 8000000
namespace Mine

theorem sdF_len (ds : List DT) (x : DT) (start pos : Nat) : (sdF ds x start pos).length = ds.length := by
  fun_induction sdF ds x start pos with
  | case1 ds pos h1 h2 ih => rw [ih]; simp
  | case2 ds pos h1 h2 => simp
  | case3 ds pos h1 => simp
theorem suF_len (ds : List DT) (pos : Nat) : (suF ds pos).1.length = ds.length := by
  fun_induction suF ds pos with
  | case1 ds pos h ih => rw [ih]; simp
  | case2 ds pos h => rfl
theorem sup_len (ds : List DT) (pos : Nat) : (sup ds pos).length = ds.length := by
  unfold sup
  rw [sdF_len, List.length_set, suF_len]
def hfyTo (ds : List DT) : Nat → List DT
  | 0 => ds
  | i + 1 => sup (hfyTo ds i) (ds.length / 2 - 1 - i)
theorem hfyTo_len (ds : List DT) : ∀ i, (hfyTo ds i).length = ds.length
  | 0 => rfl
  | i + 1 => by show (sup _ _).length = _; rw [sup_len, hfyTo_len ds i]
def hfy (ds : List DT) : List DT := hfyTo ds (ds.length / 2)

section
variable {prog : Program} {w : World} {A : Around} {E : Value → Shared → Prop} {s : Shared} {env : Env} {h₀ : Heap} {x : Str} {body : List Stmt} {Q : Flow → Shared → Prop}
theorem iter_ri {I : Addr} {k : Nat} {m₀ : Str → Option Value} {news : List (Addr × Obj)} (J : Nat → (Str → Option Value) → List (Addr × Obj) → Prop)
    (hh : A.handled = none) (hI : IsRangeIter s.heap I ((k : Int) - 1) k (-1)) (hIL : I ≠ env.locals) (hI0 : h₀.get? I = none) (F : Fr h₀ env.locals s.heap m₀) (N : News h₀ env.locals s.heap news) (hnI : ∀ p ∈ news, p.1 ≠ I)
    (hJ : J 0 m₀ news)
    (turn : ∀ i t m₁ news₁ h tk own, i < k → J i m₁ news₁ → (∀ p ∈ own, p.1 = I) → (∀ p ∈ news₁, p.1 ≠ I) →
      Fr h₀ env.locals h (fun y => if y = x then some (.int (((k - 1 - i : Nat)) : Int) t) else m₁ y) → News h₀ env.locals h (own ++ news₁) →
      wpAny (model prog w) A (execs body env) (StepM h₀ env.locals I own (J (i + 1)) s Q) E { s with heap := h, toks := tk })
    (done : ∀ m₁ news₁ h tk, J k m₁ news₁ → (∀ p ∈ news₁, p.1 ≠ I) → Fr h₀ env.locals h m₁ → News h₀ env.locals h news₁ → Q .next { s with heap := h, toks := tk }) :
    wpAny (model prog w) A (pyIter (.ref I)) (fun it s₂ => LoopAtV prog w A h₀ env x body Q E it s₂) E s := by
  refine wpAny_pyIter_rangeiter hI ?_
  have W : Walks prog w A I [I] [I] k (fun i v => i < k ∧ ∃ t, v = .int (((k : Int) - 1) + i * (-1)) t)
      (fun i h => IsRangeIter h I (((k : Int) - 1) + (i : Nat) * (-1)) ((k : Int) - (i : Nat)) (-1)) := (Walks.range hh _ ((k : Int) - 1) (-1) k).bound
  refine loopM J W ?_ hI0 hnI (by show IsRangeIter _ _ _ _ _; simpa using hI) F N hJ ?_ ?_
  · intro hm
    exact hIL (List.mem_singleton.mp hm).symm
  · rintro i v m₁ news₁ h tk own hi ⟨_, t, rfl⟩ hJ ho hne F₁ N₁
    have e : (k : Int) - 1 + (i : Int) * -1 = ((k - 1 - i : Nat) : Int) := by omega
    rw [e] at F₁
    exact turn i t m₁ news₁ h tk own hi hJ (fun p hp => List.mem_singleton.mp (ho p hp)) hne F₁ N₁
  · exact done
end

local macro_rules | `(tactic| walk_at "ST") => `(tactic| repeat' (
  (fail_if_success (with_reducible show wpAny _ _ (exec (Stmt.While _ _ _ _) _) _ _ _));
  (fail_if_success (with_reducible show wpAny _ _ (exec (Stmt.For _ _ _ _ _) _) _ _ _));
  (fail_if_success (with_reducible show wpAny _ _ (pyIter _) _ _ _));
  (fail_if_success (with_reducible show wpAny _ _ (call (Value.ref _) _ _) _ _ _));
  first | (k_unfold; (try dsimp only)) | walk1 | (dsimp only; walk1)))
local macro_rules | `(tactic| walk_at "subscriptTail") => `(tactic| (k_here; (with_reducible show wpAny _ _ (subscriptTail _ _ (Value.ref _) (Value.int _ _)) _ _ _); (rename News _ _ _ _ => nM'); (refine item_M nM' (by assumption) ?i0 ?i1 ?i2 ?_; (case i0 => omega); (case i1 => omega); (case i2 => omega)); intro a' t1' t2' c' hm'))
local macro_rules | `(tactic| walk_at "compareOp Lt ref") => `(tactic| (k_here; (with_reducible show wpAny _ _ (compareOp CmpOp.Lt (Value.ref _) (Value.ref _)) _ _ _); (rename News _ _ _ _ => nM'); (refine lt_tup (by k_units) (subGet nM' (by assumption) (by assumption)) (subGet nM' (by assumption) (by assumption)) ?_)))
local macro_rules | `(tactic| walk_at "setItem ref int") => `(tactic| (k_here; (with_reducible show wpAny _ _ (setItem (Value.ref _) (Value.int _ _) (Value.ref _)) _ _ _); (rename Fr _ _ _ _ => fM'); (rename News _ _ _ _ => nM'); (refine set_M fM' nM' (by assumption) (by assumption) ⟨_, _, _, _, rfl, by assumption⟩ ?i0 ?i1 ?i2 ?_; (case i0 => omega); (case i1 => omega); (case i2 => omega)); intro h' F' N' hv'; (try k_sweep)))

local macro_rules | `(tactic| walk_at "binaryOp RShift int int") => `(tactic| (refine wpAny_rshift1_int (by omega) ?_))

local macro_rules | `(tactic| walk_at "call builtin:len") => `(tactic| (k_here; (with_reducible show wpAny _ _ (call (Value.builtin _) [Value.ref _]) _ _ _); (rename News _ _ _ _ => nM'); (refine len_M nM' (by assumption) (by first | omega | (simp only [List.length_append, List.length_cons, List.length_nil, List.length_dropLast]; omega)) ?_)))

local macro_rules | `(tactic| walk_at "call builtin:list.append") => `(tactic| (k_here; (with_reducible show wpAny _ _ (call (Value.builtin _) [Value.ref _, _]) _ _ _); (rename Fr _ _ _ _ => fM'); (rename News _ _ _ _ => nM'); k_dflt (refine append_M fM' nM' (by assumption) (by assumption) ⟨_, _, _, _, rfl, by assumption⟩ (by omega) ?_); intro h' F' N' hv'; (try k_sweep)))
local macro_rules | `(tactic| walk_at "call builtin:list.pop") => `(tactic| (k_here; (try dsimp only); (with_reducible show wpAny _ _ (call (Value.builtin _) [Value.ref _]) _ _ _); (rename Fr _ _ _ _ => fM'); (rename News _ _ _ _ => nM'); k_dflt (refine pop_M fM' nM' (by assumption) (by assumption) (by omega) (by omega) ?_); intro h' a' t1' t2' c' hm' F' N' hv'; (try k_sweep)))
local macro_rules | `(tactic| walk_at "truthy ref") => `(tactic| (k_here; (with_reducible show wpAny _ _ (truthy (Value.ref _)) _ _ _); (rename News _ _ _ _ => nM'); (refine truthy_M nM' (by assumption) (by first | omega | (simp only [List.length_dropLast]; omega)) ?_)))

local macro_rules | `(tactic| walk_at "call type:reversed") => `(tactic| (k_here; (with_reducible show wpAny _ _ (call (Value.type _) [Value.ref _]) _ _ _); (rename IsRange _ _ _ _ _ _ _ _ => rR'); k_dflt (refine call_reversed_range rR' (by omega) ?_)))

theorem heapify_spec {prog : Program} {w : World} {A : Around} {E : Value → Shared → Prop} {s : Shared} {h₀ : Heap} {L H : Addr} {m : Str → Option Value} {T T₀ : List (Addr × Obj)} {vs : List Value} {ds : List DT} {n : Nat}
    (C : Cx w h₀) (F : Fr h₀ L s.heap m) (N : News h₀ L s.heap ((H, W.listOf vs.toArray n) :: T)) (ho : OwnOff T [H]) (hs : Sub T₀ T) (hv : ITs T₀ vs ds) (hA : ALe A 500) (hlen : ds.length ≤ 50000)
    {Q : Value → Shared → Prop} (hQ : ∀ h' tk vs', Fr h₀ L h' m → News h₀ L h' ((H, W.listOf vs'.toArray n) :: T) → ITs T₀ vs' (hfy ds) → Q .none {s with heap := h', toks := tk}) :
    wpAny (model prog w) A (call (.ref 42) [.ref H]) Q E s := by
  refine wpAny_lv hA (wpAny_call ?_)
  refine callM C F N (by k_is) (by k_is) (by decide) (BindsTo.of_eq rfl) (locs rfl) ?_
  clear F N C
  intro g L' h' C' F' N' l1
  obtain ⟨X', mg, mb, T'⟩ := id C'
  try dsimp only
  k_fold
  have hvl := hv.len
  walk_at "ST"
  rename Fr _ _ _ _ => F1
  refine For_invVF F1 rfl rfl ?_
  walk_at "ST"
  rename IsRange _ _ _ _ _ _ _ _ => R1
  rename Fr _ _ _ _ => F1
  rename News _ _ _ _ => N1
  rename_i hh _ _ _ _ _
  have ek2 : (ds.length : Int).fdiv 2 = ((ds.length / 2 : Nat) : Int) := by
    rw [Int.fdiv_eq_ediv_of_nonneg _ (by decide)]; omega
  rw [ek2] at R1
  refine call_reversed_range R1 (by omega) ?_
  have F2 := F1.push (riObj (((ds.length / 2 : Nat) : Int) - 1) ((ds.length / 2 : Nat) : Int) (-1))
  have N2 := KStt.news_of (News.push F1 N1 (riObj (((ds.length / 2 : Nat) : Int) - 1) ((ds.length / 2 : Nat) : Int) (-1))) (b := (H, W.listOf vs.toArray n) :: T) fun p hp => .tail _ hp
  have hnI : ∀ p ∈ (H, W.listOf vs.toArray n) :: T, p.1 ≠ hh.objs.size := fun p hp => Nat.ne_of_lt (Heap.lt_size (N1 p hp).1)
  refine iter_ri (k := ds.length / 2) (fun i m₁ nx => ∃ (vs1 : List Value), nx = (H, W.listOf vs1.toArray n) :: T ∧ ITs T₀ vs1 (hfyTo ds i) ∧ Knows m₁ [(Str.ofString "x", .ref H)]) rfl (Heap.get?_push_size _ rfl) ?_ (next_is_new F1) F2 N2 hnI ⟨vs, rfl, hv, ⟨rfl, trivial⟩⟩ ?_ ?_
  · exact Nat.ne_of_gt F1.ns.lt
  · rintro i t m₁ nx h tk own hi ⟨vs1, rfl, hv1, hkn⟩ hown hne F3 N3
    clear F1 N1 R1 F2 N2 hv
    replace F3 := frKnows (ps := [(Str.ofString "i", .int ((ds.length / 2 - 1 - i : Nat) : Int) t), (Str.ofString "x", .ref H)]) F3 ⟨by simp, hkn.1, trivial⟩
    replace F3 : Fr g L' h _ := F3
    dsimp only [bl] at F3
    replace N3 : News g L' h ((H, W.listOf vs1.toArray n) :: (own ++ T)) := newsMid N3
    have hoff : OwnOff (own ++ T) [H] := offApp hown (hnI _ (.head _)) (fun p hp => ho p hp H (.head _))
    have hln := hfyTo_len ds i
    walk_at "ST"
    refine siftup_spec (T := own ++ T) C' (by assumption) (by assumption) hoff hs.app hv1 (ALe.lvDeeper.mono (by decide)) (by omega) (by omega) ?_
    intro h4 tk4 vs4 F4 N4 hv4
    walk_at "ST"
    refine ⟨_, _, _, _, rfl, F4, newsMid' N4, ?_, vs4, rfl, hv4, ⟨rfl, trivial⟩⟩
    intro p hp
    rcases List.mem_cons.mp hp with e | hp
    · rw [e]; exact hnI (H, W.listOf vs.toArray n) (.head _)
    · exact hnI _ (.tail _ hp)
  · rintro m₁ nx h tk ⟨vs1, rfl, hv1, hkn⟩ hne F3 N3
    clear F1 N1 R1 F2 N2 hv
    replace F3 := frKnows F3 hkn
    replace F3 : Fr g L' h _ := F3
    dsimp only [bl] at F3
    replace N3 : News g L' h _ := N3
    walk_at "ST"
    refine leaveK_ (by assumption) (by assumption) fun kF kN => ?_
    exact hQ _ _ _ kF kN hv1
end Mine
end
section
set_option maxRecDepth 100000
set_option maxHeartbeats 2000000
namespace Mine
/-! the order of pairs -/
theorem ltD_iff {d e : DT} : ltD d e = true ↔ d.1 < e.1 ∨ (d.1 = e.1 ∧ d.2 < e.2) := by
  simp [ltD]
theorem ltD_irr (d : DT) : ltD d d = false := by
  rw [Bool.eq_false_iff]; intro h
  rcases ltD_iff.mp h with h | ⟨_, h⟩
  · omega
  · exact List.lt_irrefl _ h
theorem ltD_trans {a b c : DT} (h1 : ltD a b = true) (h2 : ltD b c = true) : ltD a c = true := by
  rw [ltD_iff] at *
  rcases h1 with h1 | ⟨e1, h1⟩ <;> rcases h2 with h2 | ⟨e2, h2⟩
  · exact .inl (by omega)
  · exact .inl (by omega)
  · exact .inl (by omega)
  · exact .inr ⟨by omega, List.lt_trans h1 h2⟩
theorem ltD_tri {a b : DT} (h1 : ltD a b = false) (h2 : ltD b a = false) : a = b := by
  rw [Bool.eq_false_iff, Ne, ltD_iff] at h1 h2
  have e : a.1 = b.1 := by
    rcases Int.lt_trichotomy a.1 b.1 with h | h | h
    · exact absurd (.inl h) h1
    · exact h
    · exact absurd (.inl h) h2
  have e2 : a.2 = b.2 := by
    apply List.le_antisymm
    · exact List.not_lt.mp fun h => h2 (.inr ⟨e.symm, h⟩)
    · exact List.not_lt.mp fun h => h1 (.inr ⟨e, h⟩)
  exact Prod.ext e e2
def leD (a b : DT) : Prop := ltD b a = false
theorem leD_refl (a : DT) : leD a a := ltD_irr a
theorem leD_of_lt {a b : DT} (h : ltD a b = true) : leD a b := by
  unfold leD
  rw [Bool.eq_false_iff]; intro h2
  have := ltD_trans h h2
  rw [ltD_irr] at this; exact Bool.noConfusion this
theorem leD_total (a b : DT) : leD a b ∨ leD b a := by
  cases h : ltD b a with
  | false => exact .inl h
  | true => exact .inr (leD_of_lt h)
theorem leD_trans {a b c : DT} (h1 : leD a b) (h2 : leD b c) : leD a c := by
  unfold leD at *
  rw [Bool.eq_false_iff]; intro h3
  -- c < a
  cases hab : ltD a b with
  | true =>
    have := ltD_trans h3 hab
    rw [h2] at this; exact Bool.noConfusion this
  | false =>
    have e := ltD_tri hab h1
    rw [e] at h3
    rw [h2] at h3; exact Bool.noConfusion h3
theorem leD_antisymm {a b : DT} (h1 : leD a b) (h2 : leD b a) : a = b := ltD_tri h2 h1
/-! the items of a list that was set -/
theorem getD_set_self {l : List DT} {i : Nat} {x : DT} (h : i < l.length) : (l.set i x).getD i dd = x := by
  rw [List.getD_eq_getElem?_getD, List.getElem?_set_self h]; rfl
theorem getD_set_ne {l : List DT} {i j : Nat} {x : DT} (h : i ≠ j) : (l.set i x).getD j dd = l.getD j dd := by
  rw [List.getD_eq_getElem?_getD, List.getElem?_set_ne h, List.getD_eq_getElem?_getD]
theorem count_set' (b : DT) : ∀ (l : List DT) (i : Nat) (x : DT), i < l.length → (l.set i x).count b + (if l.getD i dd = b then 1 else 0) = l.count b + (if x = b then 1 else 0)
  | [], _, _, h => absurd h (Nat.not_lt_zero _)
  | y :: r, 0, x, _ => by
    simp only [List.set_cons_zero, List.count_cons, List.getD_cons_zero, beq_iff_eq]
    omega
  | y :: r, i + 1, x, h => by
    have := count_set' b r i x (Nat.lt_of_succ_lt_succ h)
    simp only [List.set_cons_succ, List.count_cons, List.getD_cons_succ, beq_iff_eq]
    omega
theorem set_swap {l : List DT} {i j : Nat} {x : DT} (hi : i < l.length) (hj : j < l.length) (hne : i ≠ j) : ((l.set i (l.getD j dd)).set j x).Perm (l.set i x) := by
  rw [List.perm_iff_count]
  intro b
  have h1 := count_set' b (l.set i (l.getD j dd)) j x (by simpa using hj)
  have h2 := count_set' b l i (l.getD j dd) hi
  have h3 := count_set' b l i x hi
  rw [getD_set_ne hne] at h1
  omega
/-! heaps -/
def HeapFrom (s : Nat) (ds : List DT) : Prop := ∀ i, 0 < i → i < ds.length → s ≤ (i - 1) / 2 → leD (ds.getD ((i - 1) / 2) dd) (ds.getD i dd)
inductive Desc (s : Nat) : Nat → Prop
  | here : Desc s s
  | step {p : Nat} : Desc s ((p - 1) / 2) → s < p → Desc s p
theorem Desc.ge {s p : Nat} (h : Desc s p) : s ≤ p := by
  cases h with
  | here => exact Nat.le_refl _
  | step _ h => omega
theorem Desc.par {s p : Nat} (h : Desc s p) (hs : s < p) : Desc s ((p - 1) / 2) := by
  cases h with
  | here => omega
  | step h _ => exact h
theorem desc_zero : ∀ p, Desc 0 p := by
  intro p
  induction p using Nat.strongRecOn with
  | ind p ih =>
    by_cases h : p = 0
    · subst h; exact .here
    · exact .step (ih _ (by omega)) (by omega)
/-- all but the pair above pos is in order once x stands at pos -/
structure Hole (s : Nat) (x : DT) (ds : List DT) (pos : Nat) : Prop where
  lt : pos < ds.length
  desc : Desc s pos
  ok : ∀ i, 0 < i → i < ds.length → s ≤ (i - 1) / 2 → i ≠ pos → leD ((ds.set pos x).getD ((i - 1) / 2) dd) ((ds.set pos x).getD i dd)
  gp : s < pos → ∀ i, 0 < i → i < ds.length → (i - 1) / 2 = pos → leD (ds.getD ((pos - 1) / 2) dd) (ds.getD i dd)
theorem sdF_heap {ds : List DT} {x : DT} {s pos : Nat} (h : Hole s x ds pos) : HeapFrom s (sdF ds x s pos) ∧ (sdF ds x s pos).Perm (ds.set pos x) := by
  fun_induction sdF ds x s pos with
  | case1 ds pos hsp hlt ih =>
    have hd := h.desc.par hsp
    have hl := h.lt
    have hne : pos ≠ (pos - 1) / 2 := by omega
    have hg : ∀ i, i ≠ pos → i ≠ (pos - 1) / 2 → ((ds.set pos (ds.getD ((pos - 1) / 2) dd)).set ((pos - 1) / 2) x).getD i dd = ds.getD i dd := fun i h1 h2 => by
      rw [getD_set_ne (Ne.symm h2), getD_set_ne (Ne.symm h1)]
    have hgp : ((ds.set pos (ds.getD ((pos - 1) / 2) dd)).set ((pos - 1) / 2) x).getD pos dd = ds.getD ((pos - 1) / 2) dd := by
      rw [getD_set_ne (Ne.symm hne), getD_set_self hl]
    have hgq : ((ds.set pos (ds.getD ((pos - 1) / 2) dd)).set ((pos - 1) / 2) x).getD ((pos - 1) / 2) dd = x := getD_set_self (by simp; omega)
    have hxp := leD_of_lt hlt
    have key := ih ⟨by simp; omega, hd, ?_, ?_⟩
    · exact ⟨key.1, key.2.trans (set_swap hl (by omega) hne)⟩
    · intro i h0 hi hs hip
      rw [List.length_set] at hi
      by_cases e1 : i = pos
      · subst e1
        rw [hgp, hgq]; exact hxp
      · rw [hg i e1 hip]
        by_cases e2 : (i - 1) / 2 = (pos - 1) / 2
        · rw [e2, hgq]
          have := h.ok i h0 hi hs e1
          rw [e2, getD_set_ne hne, getD_set_ne (Ne.symm e1)] at this
          exact leD_trans hxp this
        · by_cases e3 : (i - 1) / 2 = pos
          · rw [e3, hgp]
            exact h.gp hsp i h0 hi e3
          · rw [hg _ e3 e2]
            have := h.ok i h0 hi hs e1
            rw [getD_set_ne (Ne.symm e3), getD_set_ne (Ne.symm e1)] at this
            exact this
    · intro hs2 i h0 hi hip
      rw [List.length_set] at hi
      have hpp : leD (ds.getD (((pos - 1) / 2 - 1) / 2) dd) (ds.getD ((pos - 1) / 2) dd) := by
        have := h.ok ((pos - 1) / 2) (by omega) (by omega) ((hd.par hs2).ge) (Ne.symm hne)
        rw [getD_set_ne (by omega), getD_set_ne hne] at this
        exact this
      rw [getD_set_ne (by omega)]
      by_cases e1 : i = pos
      · subst e1
        rw [getD_set_self hl]; exact hpp
      · rw [getD_set_ne (Ne.symm e1)]
        have := h.ok i h0 hi (by omega) e1
        rw [hip, getD_set_ne hne, getD_set_ne (Ne.symm e1)] at this
        exact leD_trans hpp this
  | case2 ds pos hsp hlt =>
    refine ⟨?_, List.Perm.refl _⟩
    intro i h0 hi hs
    rw [List.length_set] at hi
    by_cases e1 : i = pos
    · subst e1
      rw [getD_set_self h.lt, getD_set_ne (by omega)]
      exact Bool.eq_false_iff.mpr hlt
    · exact h.ok i h0 hi hs e1
  | case3 ds pos hsp =>
    refine ⟨?_, List.Perm.refl _⟩
    intro i h0 hi hs
    rw [List.length_set] at hi
    by_cases e1 : i = pos
    · have := h.desc.ge
      omega
    · exact h.ok i h0 hi hs e1
end Mine
end
section
set_option maxRecDepth 100000
set_option maxHeartbeats 2000000
namespace Mine
theorem suC_par (ds : List DT) (p : Nat) : (suC ds p - 1) / 2 = p := by unfold suC; split <;> omega
theorem suC_lt {ds : List DT} {p : Nat} (h : 2 * p + 1 < ds.length) : suC ds p < ds.length := by
  unfold suC; split
  · rename_i h2; exact h2.1
  · exact h
theorem suC_min {ds : List DT} {p i : Nat} (h0 : 0 < i) (hi : i < ds.length) (hp : (i - 1) / 2 = p) : leD (ds.getD (suC ds p) dd) (ds.getD i dd) := by
  have hc : i = 2 * p + 1 ∨ i = 2 * p + 2 := by omega
  unfold suC
  split
  · rename_i h
    rcases hc with rfl | rfl
    · exact h.2
    · exact leD_refl _
  · rename_i h
    rcases hc with rfl | rfl
    · exact leD_refl _
    · have : ltD (ds.getD (2 * p + 1) dd) (ds.getD (2 * p + 2) dd) = true := by
        cases e : ltD (ds.getD (2 * p + 1) dd) (ds.getD (2 * p + 2) dd) with
        | true => rfl
        | false => exact absurd ⟨hi, e⟩ h
      exact leD_of_lt this
structure Sup (s : Nat) (ds : List DT) (p : Nat) : Prop where
  lt : p < ds.length
  desc : Desc s p
  ok : ∀ i, 0 < i → i < ds.length → s ≤ (i - 1) / 2 → (p = s → (i - 1) / 2 ≠ s) → leD (ds.getD ((i - 1) / 2) dd) (ds.getD i dd)
theorem suF_ok {ds : List DT} {s p : Nat} (x : DT) (h : Sup s ds p) : Sup s (suF ds p).1 (suF ds p).2 ∧ (suF ds p).1.length ≤ 2 * (suF ds p).2 + 1 ∧ ((suF ds p).1.set (suF ds p).2 x).Perm (ds.set p x) := by
  fun_induction suF ds p with
  | case1 ds p hlt ih =>
    have hc := suC_lt hlt
    have hcp := suC_par ds p
    have hgt := suC_gt ds p
    have hl := h.lt
    have key := ih ⟨by simpa using hc, .step (by rw [hcp]; exact h.desc) (by have := h.desc.ge; omega), ?_⟩
    · exact ⟨key.1, key.2.1, key.2.2.trans (set_swap hl hc (by omega))⟩
    · intro i h0 hi hs _
      rw [List.length_set] at hi
      by_cases e1 : (i - 1) / 2 = p
      · rw [e1, getD_set_self hl, getD_set_ne (by omega)]
        exact suC_min h0 hi e1
      · rw [getD_set_ne (Ne.symm e1)]
        by_cases e2 : i = p
        · subst e2
          have hps : i ≠ s := by omega
          rw [getD_set_self hl]
          have h1 := h.ok i h0 hi hs (fun q => absurd q hps)
          have h2 := h.ok (suC ds i) (by omega) hc (by rw [hcp]; exact h.desc.ge) (fun q => absurd q hps)
          rw [hcp] at h2
          exact leD_trans h1 h2
        · rw [getD_set_ne (Ne.symm e2)]
          exact h.ok i h0 hi hs (fun q => by omega)
  | case2 ds p hlt =>
    exact ⟨h, by dsimp only; omega, List.Perm.refl _⟩
theorem set_getD_self {l : List DT} {i : Nat} : l.set i (l.getD i dd) = l := by
  by_cases h : i < l.length
  · rw [List.getD_eq_getElem?_getD, List.getElem?_eq_getElem h]
    exact List.set_getElem_self h
  · exact List.set_eq_of_length_le (by omega)
theorem set_set' (l : List DT) (i : Nat) (x y : DT) : (l.set i x).set i y = l.set i y := by simp
theorem sup_heap {ds : List DT} {s : Nat} (hs : s < ds.length) (h : HeapFrom (s + 1) ds) : HeapFrom s (sup ds s) ∧ (sup ds s).Perm ds := by
  have hS : Sup s ds s := ⟨hs, .here, fun i h0 hi h1 h2 => h i h0 hi (by have := h2 rfl; omega)⟩
  obtain ⟨h1, h2, h3⟩ := suF_ok (ds.getD s dd) hS
  rw [set_getD_self] at h3
  unfold sup
  generalize hx : ds.getD s dd = x at *
  generalize hr : suF ds s = r at *
  obtain ⟨es, p⟩ := r
  dsimp only at h1 h2 h3 ⊢
  have hH : Hole s x (es.set p x) p := by
    refine ⟨by simpa using h1.lt, h1.desc, ?_, ?_⟩
    · intro i h0 hi hsi hip
      rw [List.length_set] at hi
      rw [set_set', getD_set_ne (by omega), getD_set_ne (Ne.symm hip)]
      exact h1.ok i h0 hi hsi (fun q => by omega)
    · intro _ i h0 hi hip
      rw [List.length_set] at hi
      omega
  have := sdF_heap hH
  rw [set_set'] at this
  exact ⟨this.1, this.2.trans h3⟩
theorem HeapFrom.mono {s s' : Nat} {ds : List DT} (h : HeapFrom s ds) (hs : s ≤ s') : HeapFrom s' ds := fun i h0 hi h1 => h i h0 hi (by omega)
theorem heapFrom_set0 {ds : List DT} {x : DT} (h : HeapFrom 0 ds) : HeapFrom 1 (ds.set 0 x) := by
  intro i h0 hi h1
  rw [List.length_set] at hi
  rw [getD_set_ne (by omega), getD_set_ne (by omega)]
  exact h i h0 hi (Nat.zero_le _)
theorem heap_replace {d0 x : DT} {r : List DT} (h : HeapFrom 0 (d0 :: r)) : HeapFrom 0 (sup ((d0 :: r).set 0 x) 0) ∧ (sup ((d0 :: r).set 0 x) 0).Perm (x :: r) :=
  sup_heap (by simp) (heapFrom_set0 h)
theorem heap_top {ds : List DT} (h : HeapFrom 0 ds) : ∀ i, i < ds.length → leD (ds.getD 0 dd) (ds.getD i dd) := by
  intro i
  induction i using Nat.strongRecOn with
  | ind i ih =>
    intro hi
    by_cases h0 : i = 0
    · subst h0; exact leD_refl _
    · exact leD_trans (ih ((i - 1) / 2) (by omega) (by omega)) (h i (by omega) hi (Nat.zero_le _))
theorem heap_min {d0 : DT} {r : List DT} (h : HeapFrom 0 (d0 :: r)) {d : DT} (hd : d ∈ d0 :: r) : leD d0 d := by
  obtain ⟨i, hi, rfl⟩ := List.getElem_of_mem hd
  have := heap_top h i hi
  rw [List.getD_eq_getElem?_getD, List.getD_eq_getElem?_getD, List.getElem?_eq_getElem hi] at this
  simpa using this
theorem heapFrom_dropLast {ds : List DT} (h : HeapFrom 0 ds) : HeapFrom 0 ds.dropLast := by
  intro i h0 hi _
  rw [List.length_dropLast] at hi
  have := h i h0 (by omega) (Nat.zero_le _)
  have e : ∀ j, j < ds.length - 1 → ds.dropLast.getD j dd = ds.getD j dd := fun j hj => by
    rw [List.getD_eq_getElem?_getD, List.getD_eq_getElem?_getD, List.getElem?_dropLast, if_pos hj]
  rw [e _ hi, e _ (by omega)]
  exact this
theorem heap_pop {d0 : DT} {r : List DT} (h : HeapFrom 0 (d0 :: r)) : HeapFrom 0 (hpop (d0 :: r)) ∧ (hpop (d0 :: r)).Perm r := by
  unfold hpop
  by_cases hr : r = []
  · subst hr
    simp only [List.length_cons, List.length_nil, Nat.le_refl, if_true]
    exact ⟨fun i h0 hi => absurd hi (by simp), List.Perm.refl _⟩
  · have hl : 0 < r.length := List.length_pos_iff.mpr hr
    rw [if_neg (by simp only [List.length_cons]; omega)]
    have e1 : (d0 :: r).dropLast = d0 :: r.dropLast := List.dropLast_cons_of_ne_nil hr
    have e2 : (d0 :: r).getD ((d0 :: r).length - 1) dd = r.getLast hr := by
      rw [List.getD_eq_getElem?_getD, List.length_cons, Nat.add_sub_cancel]
      rw [List.getElem?_cons, if_neg (by omega), List.getLast_eq_getElem, List.getElem?_eq_getElem (by omega)]
      rfl
    have hd := heapFrom_dropLast h
    rw [e1] at hd ⊢
    rw [e2]
    have := heap_replace (x := r.getLast hr) hd
    refine ⟨this.1, this.2.trans ?_⟩
    have e3 := List.dropLast_concat_getLast hr
    have : (r.getLast hr :: r.dropLast).Perm (r.dropLast ++ [r.getLast hr]) := (List.perm_append_singleton _ _).symm
    rw [e3] at this
    exact this
theorem heap_push {ds : List DT} {d : DT} (h : HeapFrom 0 ds) : HeapFrom 0 (sdF (ds ++ [d]) d 0 ds.length) ∧ (sdF (ds ++ [d]) d 0 ds.length).Perm (d :: ds) := by
  have e : (ds ++ [d]).set ds.length d = ds ++ [d] := by
    rw [List.set_append_right _ _ (Nat.le_refl _)]; simp
  have g : ∀ j, j < ds.length → (ds ++ [d]).getD j dd = ds.getD j dd := fun j hj => by
    rw [List.getD_eq_getElem?_getD, List.getD_eq_getElem?_getD, List.getElem?_append_left hj]
  have hH : Hole 0 d (ds ++ [d]) ds.length := by
    refine ⟨by simp, desc_zero _, ?_, ?_⟩
    · intro i h0 hi _ hne
      simp only [List.length_append, List.length_singleton] at hi
      rw [e, g i (by omega), g _ (by omega)]
      exact h i h0 (by omega) (Nat.zero_le _)
    · intro _ i h0 hi hip
      simp only [List.length_append, List.length_singleton] at hi
      omega
  have := sdF_heap hH
  rw [e] at this
  exact ⟨this.1, this.2.trans (List.perm_append_singleton _ _)⟩
end Mine
end
section
set_option maxRecDepth 100000
set_option maxHeartbeats 2000000
namespace Mine
theorem hfyTo_heap (ds : List DT) : ∀ i, i ≤ ds.length / 2 → HeapFrom (ds.length / 2 - i) (hfyTo ds i) ∧ (hfyTo ds i).Perm ds
  | 0, _ => by
    refine ⟨fun i h0 hi h1 => ?_, List.Perm.refl _⟩
    have hi' : i < ds.length := hi
    omega
  | i + 1, h => by
    obtain ⟨h1, h2⟩ := hfyTo_heap ds i (by omega)
    have e : ds.length / 2 - i = (ds.length / 2 - 1 - i) + 1 := by omega
    rw [e] at h1
    have := sup_heap (by rw [hfyTo_len]; omega) h1
    have e2 : ds.length / 2 - (i + 1) = ds.length / 2 - 1 - i := by omega
    rw [e2]
    exact ⟨this.1, this.2.trans h2⟩
theorem heap_heapify (ds : List DT) : HeapFrom 0 (hfy ds) ∧ (hfy ds).Perm ds := by
  have := hfyTo_heap ds (ds.length / 2) (Nat.le_refl _)
  rw [Nat.sub_self] at this
  exact this
theorem minTo_le {ds : List DT} : ∀ {k : Nat}, ∀ i, i ≤ k → leD (minTo ds k) (ds.getD i dd)
  | 0, i, h => by
    have : i = 0 := by omega
    subst this; exact leD_refl _
  | k + 1, i, h => by
    rw [minTo]
    split
    · rename_i hlt
      by_cases e : i = k + 1
      · subst e; exact leD_refl _
      · exact leD_trans (leD_of_lt hlt) (minTo_le i (by omega))
    · rename_i hlt
      by_cases e : i = k + 1
      · subst e
        exact Bool.eq_false_iff.mpr hlt
      · exact minTo_le i (by omega)
theorem minD_le {ds : List DT} {d : DT} (hd : d ∈ ds) : leD (minD ds) d := by
  obtain ⟨i, hi, rfl⟩ := List.getElem_of_mem hd
  have := minTo_le (ds := ds) (k := ds.length - 1) i (by omega)
  rw [List.getD_eq_getElem?_getD, List.getElem?_eq_getElem hi] at this
  exact this
theorem minD_eq {ds : List DT} {d : DT} (hd : d ∈ ds) (h : ∀ e ∈ ds, leD d e) : minD ds = d := by
  have hl : 0 < ds.length := List.length_pos_of_mem hd
  exact leD_antisymm (minD_le hd) (h _ (minD_mem hl))
/-! counts -/
theorem cnt_cons (x y : Nat) : ∀ (n : Nat) (l : List Nat), l.length ≤ n → ∀ u, cnt x y l ≤ cnt x y (u :: l) ∧ cnt x y (u :: l) ≤ cnt x y l + 1
  | _, [], _, u => by simp [cnt]
  | n + 1, v :: r, h, u => by
    have ih := cnt_cons x y n r (by simp at h; omega) v
    rw [cnt]
    split
    · omega
    · omega
theorem cnt_cons_ge (x y u : Nat) (l : List Nat) : cnt x y l ≤ cnt x y (u :: l) := (cnt_cons x y l.length l (Nat.le_refl _) u).1
theorem cnt_cons_ne {x y u : Nat} (l : List Nat) (h : u ≠ x) : cnt x y (u :: l) = cnt x y l := by
  cases l with
  | nil => rfl
  | cons v r => rw [cnt, if_neg (fun q => h q.1)]
theorem put_head (a b c w : Nat) (r : List Nat) : (put a b c (w :: r) = c :: put a b c (r.drop 1) ∧ r ≠ []) ∨ (put a b c (w :: r) = w :: put a b c r) := by
  cases r with
  | nil => exact .inr rfl
  | cons v r =>
    rw [put]
    split
    · exact .inl ⟨rfl, by simp⟩
    · exact .inr rfl
theorem cnt_put_le {a b c x y : Nat} (hx : c ≠ x) (hy : c ≠ y) : ∀ (n : Nat) (l : List Nat), l.length ≤ n → cnt x y (put a b c l) ≤ cnt x y l
  | _, [], _ => Nat.le_refl _
  | _, [_], _ => Nat.le_refl _
  | n + 1, z :: w :: r, h => by
    simp only [List.length_cons] at h
    have h1 := cnt_cons_ge x y w r
    have h2 := cnt_cons_ge x y z (w :: r)
    rw [put]
    split
    · rw [cnt_cons_ne _ hx]
      have := cnt_put_le (a := a) (b := b) hx hy n r (by omega)
      omega
    · have ihw := cnt_put_le (a := a) (b := b) hx hy n (w :: r) (by simp; omega)
      rcases put_head a b c w r with ⟨e, _⟩ | e
      · have e2 : cnt x y (z :: put a b c (w :: r)) = cnt x y (put a b c (w :: r)) := by
          rw [e, cnt, if_neg (fun q => hy q.2)]
        omega
      · by_cases hq : z = x ∧ w = y
        · rw [e, cnt, if_pos hq, cnt, if_pos hq]
          have := cnt_put_le (a := a) (b := b) hx hy n r (by omega)
          omega
        · have e2 : cnt x y (z :: put a b c (w :: r)) = cnt x y (put a b c (w :: r)) := by
            rw [e, cnt, if_neg hq]
          omega
theorem cnt_put_self {a b c : Nat} (ha : c ≠ a) (hb : c ≠ b) : ∀ (n : Nat) (l : List Nat), l.length ≤ n → cnt a b (put a b c l) = 0
  | _, [], _ => rfl
  | _, [_], _ => rfl
  | n + 1, z :: w :: r, h => by
    simp only [List.length_cons] at h
    rw [put]
    split
    · rw [cnt_cons_ne _ ha]
      exact cnt_put_self ha hb n r (by omega)
    · rename_i hq
      have ihw := cnt_put_self ha hb n (w :: r) (by simp; omega)
      rcases put_head a b c w r with ⟨e, _⟩ | e
      · rw [e, cnt, if_neg (fun q => hb q.2), ← e]; exact ihw
      · rw [e, cnt, if_neg hq, ← e]; exact ihw
theorem put_mem {a b c z : Nat} : ∀ (n : Nat) (l : List Nat), l.length ≤ n → z ∈ put a b c l → z = c ∨ z ∈ l
  | _, [], _, h => .inr h
  | _, [_], _, h => .inr h
  | n + 1, u :: w :: r, h, hz => by
    simp only [List.length_cons] at h
    rw [put] at hz
    split at hz
    · rcases List.mem_cons.mp hz with rfl | hz
      · exact .inl rfl
      · rcases put_mem n r (by omega) hz with h1 | h1
        · exact .inl h1
        · exact .inr (.tail _ (.tail _ h1))
    · rcases List.mem_cons.mp hz with rfl | hz
      · exact .inr (.head _)
      · rcases put_mem n (w :: r) (by simp; omega) hz with h1 | h1
        · exact .inl h1
        · exact .inr (.tail _ h1)
theorem nb_of_cnt {x y : Nat} : ∀ (n : Nat) (l : List Nat), l.length ≤ n → 0 < cnt x y l → ∃ k, k + 1 < l.length ∧ (l.drop k).take 2 = [x, y]
  | _, [], _, h => absurd h (by simp [cnt])
  | _, [_], _, h => absurd h (by simp [cnt])
  | n + 1, z :: w :: r, h, hc => by
    simp only [List.length_cons] at h
    rw [cnt] at hc
    split at hc
    · rename_i hq
      exact ⟨0, by simp, by simp [hq.1, hq.2]⟩
    · obtain ⟨k, h1, h2⟩ := nb_of_cnt n (w :: r) (by simp; omega) hc
      exact ⟨k + 1, by simp at h1 ⊢; omega, by simpa using h2⟩
theorem nbrs_of_cnt {x y : Nat} {l : List Nat} (h : 0 < cnt x y l) : [x, y] ∈ nbrs l := by
  obtain ⟨k, h1, h2⟩ := nb_of_cnt l.length l (Nat.le_refl _) h
  exact nbTo_mem.mpr ⟨k, by omega, h2.symm⟩
theorem nbrs_chars {l p : List Nat} (h : p ∈ nbrs l) {z : Nat} (hz : z ∈ p) : z ∈ l := by
  obtain ⟨k, _, rfl⟩ := nbTo_mem.mp h
  exact List.mem_of_mem_drop (List.mem_of_mem_take hz)
theorem nbTo_nodup (l : List Nat) : ∀ i, (nbTo l i).Nodup
  | 0 => List.nodup_nil
  | i + 1 => by
    have ih := nbTo_nodup l i
    rw [nbTo, addNew]
    split
    · exact ih
    · rename_i h
      rw [List.nodup_append]
      refine ⟨ih, by simp, ?_⟩
      intro a ha b hb e
      rw [List.mem_singleton.mp hb] at e
      exact h (e ▸ ha)
theorem nbrs_nodup (l : List Nat) : (nbrs l).Nodup := nbTo_nodup l _
end Mine
end
section
open PySem PySem.W PyProof.Rows PySem.Calls
set_option maxRecDepth 100000
set_option maxHeartbeats 2000000
namespace Mine
def replS : Str → List Str → Str
  | t, a :: b :: r => replS (Txt.join b (Txt.split t a)) r
  | t, _ => t
/-- every step of the replacing stays within bounds -/
inductive ROk : Str → List Str → Prop
  | nil {t : Str} : ROk t []
  | cons {t a b : Str} {r : List Str} : 0 < a.length → t.length ≤ 1000 → b.length ≤ 2 → (Txt.split t a).length ≤ 1000 → ((Txt.split t a).map (·.length)).sum ≤ 1000 → r.length ≤ 100 → ROk (Txt.join b (Txt.split t a)) r → ROk t (a :: b :: r)

local macro_rules | `(tactic| walk_at "ST") => `(tactic| repeat' (
  (fail_if_success (with_reducible show wpAny _ _ (exec (Stmt.While _ _ _ _) _) _ _ _));
  (fail_if_success (with_reducible show wpAny _ _ (exec (Stmt.For _ _ _ _ _) _) _ _ _));
  (fail_if_success (with_reducible show wpAny _ _ (pyIter _) _ _ _));
  (fail_if_success (with_reducible show wpAny _ _ (call (Value.ref _) _ _) _ _ _));
  first | (k_unfold; (try dsimp only)) | walk1 | (dsimp only; walk1)))

theorem si0 (n : Nat) : seqIndex? 0 (n + 1) = some 0 := by
  unfold seqIndex?
  have e : (if (0 : Int) < 0 then 0 + ((n + 1 : Nat) : Int) else 0) = 0 := if_neg (by decide)
  simp only [e]
  rw [if_pos (by simp)]; rfl
theorem si1 (n : Nat) : seqIndex? 1 (n + 2) = some 1 := by
  unfold seqIndex?
  have e : (if (1 : Int) < 0 then 1 + ((n + 2 : Nat) : Int) else 1) = 1 := if_neg (by decide)
  simp only [e]
  rw [if_pos (by simp; omega)]; rfl
section
variable {prog : Program} {w : World} {A : Around} {E : Value → Shared → Prop} {s : Shared} {h₀ : Heap} {L D : Addr} {news : List (Addr × Obj)} {v0 v1 : Value} {r : List Value} {c : Nat} {u : Tok} {value slice : PySem.Expr} {Q : Value → Shared → Prop}
theorem tup0 (N : News h₀ L s.heap ((D, { cls := .type "tuple", data := .seq (v0 :: r).toArray c }) :: news)) (h : Q v0 s)
    (hs : subscripted slice false (.ref D) (.int 0 u) = operate [.ref D, .int 0 u] (getItem (.ref D) (.int 0 u))) (hg : ∀ r, letTemporaryGo value (.ref D) r = pure ()) :
    wpAny (model prog w) A (subscriptTail value slice (.ref D) (.int 0 u)) Q E s :=
  kim_tup (l := v0 :: r) (n := c) (j := 0) N (.head _) rfl rfl (by decide) (by decide) (si0 _) rfl h hs hg
theorem tup1 (N : News h₀ L s.heap ((D, { cls := .type "tuple", data := .seq (v0 :: v1 :: r).toArray c }) :: news)) (h : Q v1 s)
    (hs : subscripted slice false (.ref D) (.int 1 u) = operate [.ref D, .int 1 u] (getItem (.ref D) (.int 1 u))) (hg : ∀ r, letTemporaryGo value (.ref D) r = pure ()) :
    wpAny (model prog w) A (subscriptTail value slice (.ref D) (.int 1 u)) Q E s :=
  kim_tup (l := v0 :: v1 :: r) (n := c) (j := 1) N (.head _) rfl rfl (by decide) (by decide) (si1 _) rfl h hs hg
end
local macro_rules | `(tactic| walk_at "subscriptTail") => `(tactic| (k_here; (with_reducible show wpAny _ _ (subscriptTail _ _ (Value.ref _) (Value.int 0 _)) _ _ _); (rename News _ _ _ _ => nM'); k_dflt (refine tup0 nM' ?_ (by with_unfolding_all rfl) (by intro _; with_unfolding_all rfl))))
local macro_rules | `(tactic| walk_at "subscriptTail") => `(tactic| (k_here; (with_reducible show wpAny _ _ (subscriptTail _ _ (Value.ref _) (Value.int 1 _)) _ _ _); (rename News _ _ _ _ => nM'); k_dflt (refine tup1 nM' ?_ (by with_unfolding_all rfl) (by intro _; with_unfolding_all rfl))))
local macro_rules | `(tactic| walk_at "truthy ref") => `(tactic| (k_here; (with_reducible show wpAny _ _ (truthy (Value.ref _)) _ _ _); (rename News _ _ _ _ => nM'); k_dflt (refine truthy_tuple ⟨_, News.get nM' (.head _), rfl, _, rfl⟩ ?z ?_; (case z => simp only [List.size_toArray, List.length_cons, List.length_nil]; omega))))

local macro_rules | `(tactic| walk_at "call builtin:str.split") => `(tactic| (k_here; (with_reducible show wpAny _ _ (call (Value.builtin "str.split") [Value.str _ _, Value.str _ _]) _ _ _); (rename Fr _ _ _ _ => fM'); (rename News _ _ _ _ => nM'); k_dflt (refine split_M fM' nM' (by omega) (by omega) ?_); intro D' vs' h' k' hv' F' N' l1'; (try k_sweep)))
local macro_rules | `(tactic| walk_at "call builtin:str.join") => `(tactic| (k_here; (with_reducible show wpAny _ _ (call (Value.builtin "str.join") [Value.str _ _, Value.ref _]) _ _ _); (rename News _ _ _ _ => nM'); k_dflt (refine join_M nM' (by assumption) (by omega) (by omega) ?_); intro t' k'))

theorem replace_spec {prog : Program} {w : World} {A : Around} {E : Value → Shared → Prop} {s : Shared} {h₀ : Heap} {L : Addr} {m : Str → Option Value} {news : List (Addr × Obj)}
    (C : Cx w h₀) (F : Fr h₀ L s.heap m) (N : News h₀ L s.heap news) (hA : ALe A 600) {text : Str} {ps : List Str} {vs : List Value} {t1 : Tok} (hv : StrsAre vs ps) (hok : ROk text ps)
    (hl1 : ps.length ≤ 102) {Q : Value → Shared → Prop} (hQ : ∀ h' tk t, Fr h₀ L h' m → News h₀ L h' news → Q (.str (replS text ps) t) {s with heap := h', toks := tk}) :
    wpAny (model prog w) A (call (.ref 63) (.str text t1 :: vs)) Q E s := by
  refine wpAny_lv hA (wpAny_call ?_)
  have hvl := hv.len_eq
  refine callMrest C F N (by omega) (by k_is) (by k_is) (by decide) (fun D => locs rfl) ?_
  clear F N C
  intro D g L' h' C' F' N' l1
  obtain ⟨X', mg, mb, T'⟩ := C'
  try dsimp only
  k_fold
  walk_at "ST"
  rename Fr _ _ _ _ => F1
  rename News _ _ _ _ => N1
  refine While_inv2 (n₀ := ps.length) (fun n m₁ nx => ∃ (t : Str) (qs : List Str) (us : List Value) (D : Addr) (c : Nat) (tt : Tok), nx = (D, { cls := .type "tuple", data := .seq us.toArray c }) :: news ∧ StrsAre us qs ∧ ROk t qs ∧ qs.length ≤ 102 ∧ replS t qs = replS text ps ∧ Knows m₁ [(Str.ofString "text", .str t tt), (Str.ofString "pairs", .ref D)] ∧ n = qs.length) F1 N1 ?_ ?_
  · exact ⟨text, ps, vs, D, _, t1, rfl, hv, hok, hl1, rfl, ⟨rfl, rfl, trivial⟩, rfl⟩
  clear F1 N1
  rintro n m₁ nx h₁ tk₁ F1 N1 ⟨t, qs, us, D, c, tt, rfl, hu, hk, hq, he, hkn, rfl⟩
  replace F1 := frKnows F1 hkn
  dsimp only [bl] at F1
  clear hkn
  cases hk with
  | nil =>
    cases hu
    walk_at "ST"
    dsimp only
    k_unfold
    rename News _ _ _ _ => N2
    refine leaveK_ F1 (KStt.news_of N2 (b := news) fun p hp => .tail _ hp) fun kF kN => ?_
    rw [show t = replS text ps from he]
    exact hQ _ _ _ kF kN
  | @cons t a b r h1 h2 h3 h4 h5 h6 h7 =>
    cases hu with
    | cons _ ta hu => cases hu with
      | cons _ tb hu =>
        rename_i us
        have hul := hu.len_eq
        iterate 6 (first | (k_unfold; (try dsimp only)) | walk1 | (dsimp only; walk1))
        · rename (Array.isEmpty _) = true => hem
          simp at hem
        walk_at "ST"
        rename Fr _ _ _ _ => F2
        rename News _ _ _ _ => N2
        refine slice_tuple_from (s := ⟨_, _, _, _, _⟩) (a := 2) F2 N2 ⟨_, News.get N2 (.tail _ (.head _)), rfl, _, rfl⟩ (by decide) (by simp) ?_ (by with_unfolding_all rfl) (by intro _; with_unfolding_all rfl) (by rw [List.size_toArray, sizeLine_eq]; simp only [List.length_cons]; omega)
        intro h3 F3 N3
        walk_at "ST"
        rename Fr _ _ _ _ => F4
        rename News _ _ _ _ => N4
        refine ⟨_, _, _, _, r.length, rfl, F4, KStt.news_of N4 (b := (_, { cls := .type "tuple", data := .seq us.toArray }) :: news) ?_, by simp only [List.length_cons]; omega, ⟨_, r, us, _, _, _, rfl, hu, h7, by omega, he, ⟨rfl, rfl, trivial⟩, rfl⟩⟩
        intro p hp
        rcases List.mem_cons.mp hp with e | hp
        · rw [e]; exact .head _
        · exact .tail _ (.tail _ (.tail _ hp))
end Mine
end
section
open PySem PySem.W PyProof.Rows PySem.Calls
open PySem.Builtin.Str PySem.StrLaws
set_option maxRecDepth 100000
set_option maxHeartbeats 2000000
namespace Mine
/-! the places of a text in a text, from the left -/
def occL (w : List Nat) : Nat → List Nat → Nat → List Nat
  | 0, _, _ => []
  | _ + 1, [], _ => []
  | n + 1, c :: r, k => if (c :: r).take w.length = w then k :: occL w n ((c :: r).drop w.length) (k + w.length) else occL w n r (k + 1)
def repl (w g : List Nat) : Nat → List Nat → List Nat
  | 0, l => l
  | _ + 1, [] => []
  | n + 1, c :: r => if (c :: r).take w.length = w then g ++ repl w g n ((c :: r).drop w.length) else c :: repl w g n r
theorem subAt_ofL (l w : List Nat) (i : Nat) : subAt (ofL l) (ofL w) i = decide ((l.drop i).take w.length = w) := by
  unfold subAt
  rw [ofL_len]
  have e : (ofL l).cps.extract i (i + w.length) = ((l.drop i).take w.length).toArray := by
    apply Array.toList_inj.mp
    simp only [ofL, Array.toList_extract, List.extract_eq_take_drop]
    congr 1; omega
  rw [e]
  rw [Bool.eq_iff_iff]
  simp [ofL]
theorem occ_run (l w : List Nat) (hw : 0 < w.length) : ∀ (m i f : Nat) (acc : Array Nat) (fuel : Nat), i + m = l.length + 1 → f ≤ l.length → acc.size ≤ i → l.length ≤ max i f + fuel →
    (forIn (List.range' i m) (acc, f) (occBody (ofL l) (ofL w) l.length (l.length + 1))).run.fst.toList = acc.toList ++ occL w fuel (l.drop (max i f)) (max i f)
  | 0, i, f, acc, fuel, hi, hf, ha, hfu => by
    have : l.drop (max i f) = [] := List.drop_eq_nil_of_le (by omega)
    rw [this]
    cases fuel <;> simp [occL]
  | m + 1, i, f, acc, fuel, hi, hf, ha, hfu => by
    rw [List.range'_succ, List.forIn_cons]
    unfold occBody
    have hacc : acc.size < l.length + 1 := by omega
    by_cases hfi : f ≤ i
    · have e0 : max i f = i := by omega
      rw [e0] at hfu ⊢
      by_cases hil : i < l.length
      · obtain ⟨fu, rfl⟩ : ∃ fu, fuel = fu + 1 := ⟨fuel - 1, by omega⟩
        have e1 : l.drop i = l[i] :: l.drop (i + 1) := List.drop_eq_getElem_cons hil
        by_cases hit : (l.drop i).take w.length = w
        · have hlen : i + w.length ≤ l.length := by
            have := congrArg List.length hit
            simp only [List.length_take, List.length_drop] at this
            omega
          rw [if_pos ⟨⟨⟨hacc, hfi⟩, by rw [ofL_len]; exact hlen⟩, by rw [subAt_ofL]; exact decide_eq_true hit⟩]
          show (forIn (List.range' (i + 1) m) (acc.push i, i + (ofL w).length) (occBody (ofL l) (ofL w) l.length (l.length + 1))).run.fst.toList = _
          rw [ofL_len, occ_run l w hw m (i + 1) (i + w.length) (acc.push i) fu (by omega) hlen (by simp; omega) (by omega)]
          have e2 : max (i + 1) (i + w.length) = i + w.length := by omega
          rw [e2]
          rw [e1] at hit ⊢
          rw [occL, if_pos hit, ← e1, List.drop_drop]
          simp
        · rw [if_neg (fun q => hit (by have := q.2; rw [subAt_ofL] at this; exact of_decide_eq_true this))]
          show (forIn (List.range' (i + 1) m) (acc, f) (occBody (ofL l) (ofL w) l.length (l.length + 1))).run.fst.toList = _
          rw [occ_run l w hw m (i + 1) f acc fu (by omega) hf (by omega) (by omega)]
          have e2 : max (i + 1) f = i + 1 := by omega
          rw [e2]
          rw [e1] at hit ⊢
          rw [occL, if_neg hit]
      · have e1 : l.drop i = [] := List.drop_eq_nil_of_le (by omega)
        rw [if_neg (fun q => by have := q.1.2; rw [ofL_len] at this; omega)]
        show (forIn (List.range' (i + 1) m) (acc, f) (occBody (ofL l) (ofL w) l.length (l.length + 1))).run.fst.toList = _
        rw [occ_run l w hw m (i + 1) f acc fuel (by omega) hf (by omega) (by omega)]
        rw [e1, List.drop_eq_nil_of_le (by omega)]
        cases fuel <;> simp [occL]
    · have e0 : max i f = f := by omega
      rw [if_neg (fun q => hfi q.1.1.2)]
      show (forIn (List.range' (i + 1) m) (acc, f) (occBody (ofL l) (ofL w) l.length (l.length + 1))).run.fst.toList = _
      rw [occ_run l w hw m (i + 1) f acc fuel (by omega) hf (by omega) (by omega)]
      have e2 : max (i + 1) f = f := by omega
      rw [e0, e2]
theorem occ_is (l w : List Nat) (hw : 0 < w.length) : occurrences (ofL l) (ofL w) 0 (ofL l).length ((ofL l).length + 1) = occL w l.length l 0 := by
  rw [occ_eq, ofL_len, occ_run l w hw (l.length + 1 - 0) 0 0 #[] l.length (by omega) (by omega) (by simp) (by omega)]
  simp
theorem kind_one {l : List Nat} (h : ∀ c ∈ l, c < 256) : PySem.Builtin.Str.strKind (ofL l) = 1 := by
  unfold PySem.Builtin.Str.strKind
  rw [if_pos]
  simp [ofL]
  exact h
theorem occL_short {w : List Nat} : ∀ {n : Nat} {l : List Nat} {k : Nat}, l.length < w.length → occL w n l k = []
  | 0, _, _, _ => rfl
  | _ + 1, [], _, _ => rfl
  | n + 1, c :: r, k, h => by
    rw [occL, if_neg, occL_short (by simp at h; omega)]
    intro q
    have := congrArg List.length q
    simp only [List.length_take, List.length_cons] at this h
    omega
theorem split_is (l w : List Nat) (hw : 0 < w.length) (h1 : ∀ c ∈ l, c < 256) (h2 : ∀ c ∈ w, c < 256) : Txt.split (ofL l) (ofL w) = partsFrom (ofL l) w.length 0 (occL w l.length l 0) := by
  have hp : partsBetween (ofL l) (occL w l.length l 0) (ofL w).length = partsFrom (ofL l) w.length 0 (occL w l.length l 0) := by
    rw [ofL_len]; exact zip_parts (ofL l) w.length _ 0
  have hone : partsFrom (ofL l) w.length 0 [] = [ofL l] := by
    show [strSub (ofL l) 0 (ofL l).length] = _
    congr 1
    refine str_eq_of_lists ?_
    rw [strSub_toList]
    simp [ofL, Str.length]
  unfold Txt.split
  rw [kind_one h1, kind_one h2, occ_is l w hw, hp]
  split
  · rename_i h
    have : l.length < w.length := by
      simp only [ofL_len] at h
      simpa using h
    rw [occL_short this, hone]
  · split
    · rename_i h
      rw [List.isEmpty_iff.mp h, hone]
    · rfl
theorem sub_ofL (l : List Nat) (i j : Nat) : strSub (ofL l) i j = ofL ((l.drop i).take (j - i)) := by
  refine str_eq_of_lists ?_
  rw [strSub_toList]
  simp [ofL]
theorem join_parts (l w g : List Nat) (hw : 0 < w.length) : ∀ (n k st : Nat), l.length ≤ k + n → st ≤ k → k ≤ l.length →
    Str.join (ofL g) (partsFrom (ofL l) w.length st (occL w n (l.drop k) k)) = ofL ((l.take k).drop st ++ repl w g n (l.drop k))
  | 0, k, st, hn, hst, hk => by
    have e : k = l.length := by omega
    subst e
    rw [occL]
    show strSub (ofL l) st (ofL l).length = _
    rw [sub_ofL, ofL_len, repl, List.take_length, List.drop_length, List.append_nil, List.take_of_length_le (by simp)]
  | n + 1, k, st, hn, hst, hk => by
    by_cases hkl : k < l.length
    · have e1 : l.drop k = l[k] :: l.drop (k + 1) := List.drop_eq_getElem_cons hkl
      by_cases hit : (l.drop k).take w.length = w
      · have hlen : k + w.length ≤ l.length := by
          have := congrArg List.length hit
          simp only [List.length_take, List.length_drop] at this
          omega
        have ih := join_parts l w g hw n (k + w.length) (k + w.length) (by omega) (Nat.le_refl _) hlen
        rw [e1] at hit
        rw [e1, occL, if_pos hit, repl, if_pos hit, ← e1, List.drop_drop]
        have hne : ∃ y r, partsFrom (ofL l) w.length (k + w.length) (occL w n (l.drop (k + w.length)) (k + w.length)) = y :: r := by
          cases occL w n (l.drop (k + w.length)) (k + w.length) with
          | nil => exact ⟨_, _, rfl⟩
          | cons c cs => exact ⟨_, _, rfl⟩
        obtain ⟨y, r, hy⟩ := hne
        show Str.join (ofL g) (strSub (ofL l) st k :: partsFrom (ofL l) w.length (k + w.length) (occL w n (l.drop (k + w.length)) (k + w.length))) = _
        rw [hy] at ih ⊢
        show strSub (ofL l) st k ++ ofL g ++ Str.join (ofL g) (y :: r) = _
        rw [ih, sub_ofL, ofL_app, ofL_app]
        congr 1
        have e3 : (l.take (k + w.length)).drop (k + w.length) = [] := List.drop_eq_nil_of_le (by simp; omega)
        rw [e3, List.nil_append, List.append_assoc]
        congr 1
        rw [List.drop_take]
      · have ih := join_parts l w g hw n (k + 1) st (by omega) (by omega) (by omega)
        rw [e1] at hit
        rw [e1, occL, if_neg hit, repl, if_neg hit, ih]
        congr 1
        have e3 : l.take (k + 1) = l.take k ++ [l[k]] := by
          rw [List.take_add_one, List.getElem?_eq_getElem hkl]; rfl
        rw [e3, List.drop_append_of_le_length (by simp; omega), List.append_assoc]
        rfl
    · have e : k = l.length := by omega
      subst e
      rw [List.drop_length, occL, repl]
      show strSub (ofL l) st (ofL l).length = _
      rw [sub_ofL, ofL_len, List.take_length, List.append_nil, List.take_of_length_le (by simp)]
theorem parts_len (s : Str) (w : Nat) : ∀ (cuts : List Nat) (a : Nat), (partsFrom s w a cuts).length = cuts.length + 1
  | [], _ => rfl
  | _ :: cs, a => by show (partsFrom s w _ cs).length + 1 = _; rw [parts_len s w cs]; rfl
theorem parts_sum (s : Str) (w : Nat) : ∀ (cuts : List Nat) (a : Nat), ((partsFrom s w a cuts).map (·.length)).sum ≤ (cuts.length + 1) * s.length
  | [], a => by
    show (strSub s a s.length).length + 0 ≤ _
    have := le_strSub s a s.length
    simp only [List.length_nil]; omega
  | c :: cs, a => by
    show (strSub s a c).length + ((partsFrom s w (c + w) cs).map (·.length)).sum ≤ _
    have h1 := le_strSub s a c
    have h2 := parts_sum s w cs (c + w)
    rw [List.length_cons, Nat.succ_mul]
    omega
theorem repl_put (a b c : Nat) : ∀ (n : Nat) (l : List Nat), l.length ≤ n → repl [a, b] [c] n l = put a b c l
  | 0, [], _ => rfl
  | _ + 1, [], _ => rfl
  | n + 1, [x], h => by
    rw [repl, if_neg (by simp), repl_put a b c n [] (by simp)]; rfl
  | n + 1, x :: y :: r, h => by
    simp only [List.length_cons] at h
    rw [repl, put]
    by_cases hq : x = a ∧ y = b
    · rw [if_pos hq, if_pos (by simp [hq.1, hq.2])]
      show [c] ++ repl [a, b] [c] n r = _
      rw [repl_put a b c n r (by omega)]; rfl
    · rw [if_neg hq, if_neg (by simpa using hq), repl_put a b c n (y :: r) (by simp; omega)]
theorem occL_cnt (a b : Nat) : ∀ (n : Nat) (l : List Nat) (k : Nat), l.length ≤ n → (occL [a, b] n l k).length = cnt a b l
  | 0, [], _, _ => rfl
  | _ + 1, [], _, _ => rfl
  | n + 1, [x], k, h => by
    rw [occL, if_neg (by simp), occL_cnt a b n [] _ (by simp)]; rfl
  | n + 1, x :: y :: r, k, h => by
    simp only [List.length_cons] at h
    rw [occL, cnt]
    by_cases hq : x = a ∧ y = b
    · rw [if_pos hq, if_pos (by simp [hq.1, hq.2]), List.length_cons]
      show (occL [a, b] n r _).length + 1 = _
      rw [occL_cnt a b n r _ (by omega)]
    · rw [if_neg hq, if_neg (by simpa using hq), occL_cnt a b n (y :: r) _ (by simp; omega)]
def unput (a b c : Nat) (l : List Nat) : List Nat := l.flatMap fun z => if z = c then [a, b] else [z]
theorem repl_unput (a b c : Nat) : ∀ (n : Nat) (l : List Nat), l.length ≤ n → repl [c] [a, b] n l = unput a b c l
  | 0, [], _ => rfl
  | _ + 1, [], _ => rfl
  | n + 1, x :: r, h => by
    simp only [List.length_cons] at h
    have ih := repl_unput a b c n r (by omega)
    rw [repl]
    by_cases hq : x = c
    · rw [if_pos (by simp [hq])]
      show [a, b] ++ repl [c] [a, b] n r = _
      rw [ih, unput, unput, List.flatMap_cons, if_pos hq]
    · rw [if_neg (by simpa using hq), ih, unput, unput, List.flatMap_cons, if_neg hq]; rfl
theorem unput_id {a b c : Nat} {l : List Nat} (h : c ∉ l) : unput a b c l = l := by
  induction l with
  | nil => rfl
  | cons x r ih =>
    rw [unput, List.flatMap_cons, if_neg (fun q => h (by rw [q]; exact .head _))]
    show [x] ++ unput a b c r = _
    rw [ih (fun q => h (.tail _ q))]; rfl
theorem unput_put (a b c : Nat) : ∀ (n : Nat) (l : List Nat), l.length ≤ n → c ∉ l → unput a b c (put a b c l) = l
  | _, [], _, _ => rfl
  | _, [x], _, h => unput_id h
  | n + 1, x :: y :: r, hl, h => by
    simp only [List.length_cons] at hl
    rw [put]
    split
    · rename_i hq
      rw [unput, List.flatMap_cons, if_pos rfl]
      show [a, b] ++ unput a b c (put a b c r) = _
      rw [unput_put a b c n r (by omega) (fun q => h (.tail _ (.tail _ q))), hq.1, hq.2]; rfl
    · rw [unput, List.flatMap_cons, if_neg (fun q => h (by rw [q]; exact .head _))]
      show [x] ++ unput a b c (put a b c (y :: r)) = _
      rw [unput_put a b c n (y :: r) (by simp; omega) (fun q => h (.tail _ q))]; rfl
end Mine
end
section
set_option maxRecDepth 100000
set_option maxHeartbeats 2000000
namespace Mine
def Ok (k c : Nat) : Prop := c = 97 ∨ c = 98 ∨ c = 99 ∨ (65 ≤ c ∧ c < 65 + k)
theorem Ok.mono {k j c : Nat} (h : Ok k c) (hk : k ≤ j) : Ok j c := by unfold Ok at *; omega
theorem Ok.ne {k c : Nat} (h : Ok k c) (hk : k ≤ 10) : 65 + k ≠ c := by unfold Ok at h; omega
theorem Ok.lt {k c : Nat} (h : Ok k c) (hk : k ≤ 10) : c < 256 := by unfold Ok at h; omega
def cntL (p : List Nat) (t : List Nat) : Nat := cnt (p.getD 0 0) (p.getD 1 0) t
theorem cnt_le (a b : Nat) (t : List Nat) : cnt a b t ≤ t.length := by have := put_len a b 0 t; omega
def toldSum (ds : List DT) : Nat := (ds.map fun d => (-d.1).toNat).sum
theorem toldSum_perm {a b : List DT} (h : a.Perm b) : toldSum a = toldSum b := (h.map _).sum_nat
structure PI (t0 t : List Nat) (ds : List DT) (fd : List PD) (sg : Nat) (nb : List (List Nat)) : Prop where
  path : (t, fd) = plainTo t0 fd.length
  heap : HeapFrom 0 ds
  nodup : (ds.map (·.2)).Nodup
  ent : ∀ d ∈ ds, ∃ a b, d.2 = [a, b] ∧ d.1 ≤ -(cnt a b t : Int) ∧ d.1 < -1 ∧ -18 ≤ d.1 ∧ Ok fd.length a ∧ Ok fd.length b
  cov : ∀ a b, 2 ≤ cnt a b t → (∃ d ∈ ds, d.2 = [a, b]) ∨ ([a, b] ∈ nb ∧ (a = sg ∨ b = sg))
  chars : ∀ c ∈ t, Ok fd.length c
  size : t.length + 2 * fd.length ≤ 18
  many : ds.length + nb.length ≤ 18 * (fd.length + 1)
  fresh : ∀ p ∈ nb, sg ∈ p → ∀ d ∈ ds, d.2 ≠ p
  nbn : nb.Nodup
  nbs : ∀ p ∈ nb, p ∈ nbrs t
def mz (t : List Nat) (ds : List DT) (nb : List (List Nat)) : Nat := 1000 * t.length + toldSum ds + 18 * nb.length
section
variable {t0 t : List Nat} {ds r : List DT} {fd : List PD} {sg : Nat} {nb : List (List Nat)} {d0 : DT}
theorem pi_init (h1 : ∀ c ∈ t0, Ok 0 c) (h2 : t0.length ≤ 18) : PI t0 t0 (hfy (((nbrs t0).map fun p => (-(cntL p t0 : Int), p)).filter fun d => decide (d.1 < -1))) [] sg [] := by
  obtain ⟨hh, hp⟩ := heap_heapify (((nbrs t0).map fun p => (-(cntL p t0 : Int), p)).filter fun d => decide (d.1 < -1))
  have hn : (((nbrs t0).map fun p => ((-(cntL p t0 : Int), p) : DT)).map (·.2)) = nbrs t0 := by
    rw [List.map_map]; exact List.map_id' _
  refine ⟨rfl, hh, ?_, ?_, ?_, h1, by simpa using h2, ?_, fun p hp => (nomatch hp), List.nodup_nil, fun p hp => (nomatch hp)⟩
  · rw [(hp.map _).nodup_iff]
    exact List.Sublist.nodup (List.Sublist.map _ List.filter_sublist) (by rw [hn]; exact nbrs_nodup t0)
  · intro d hd
    have hd := hp.mem_iff.mp hd
    rw [List.mem_filter] at hd
    obtain ⟨p, hpm, rfl⟩ := List.mem_map.mp hd.1
    have hlt := of_decide_eq_true hd.2
    obtain ⟨a, b, rfl⟩ := nbrs_two hpm
    have hc := cnt_le a b t0
    have e : cntL [a, b] t0 = cnt a b t0 := rfl
    dsimp only at hlt ⊢
    rw [e] at hlt ⊢
    exact ⟨a, b, rfl, Int.le_refl _, hlt, by omega, h1 _ (nbrs_chars hpm (by simp)), h1 _ (nbrs_chars hpm (by simp))⟩
  · intro a b hc
    refine .inl ⟨(-(cnt a b t0 : Int), [a, b]), hp.mem_iff.mpr ?_, rfl⟩
    rw [List.mem_filter]
    refine ⟨List.mem_map.mpr ⟨[a, b], nbrs_of_cnt (by omega), rfl⟩, decide_eq_true ?_⟩
    show -(cnt a b t0 : Int) < -1
    omega
  · have h3 := hp.length_eq
    have h4 := List.length_filter_le (fun d : DT => decide (d.1 < -1)) ((nbrs t0).map fun p => (-(cntL p t0 : Int), p))
    rw [List.length_map] at h4
    have h5 := nbrs_len t0
    simp only [List.length_nil]
    omega
theorem pi_stale (h : PI t0 t (d0 :: r) fd sg []) {a b : Nat} (hab : d0.2 = [a, b]) (h1 : -(cnt a b t : Int) < -1) (h2 : -(cnt a b t : Int) ≠ d0.1) :
    PI t0 t (sup ((d0 :: r).set 0 (-(cnt a b t : Int), [a, b])) 0) fd sg [] ∧ mz t (sup ((d0 :: r).set 0 (-(cnt a b t : Int), [a, b])) 0) [] < mz t (d0 :: r) [] := by
  obtain ⟨hh, hp⟩ := heap_replace (x := (-(cnt a b t : Int), [a, b])) h.heap
  obtain ⟨a', b', e, h3, h4, h5, h6, h7⟩ := h.ent d0 (.head _)
  have e' : a = a' ∧ b = b' := by rw [hab] at e; simpa using e
  obtain ⟨rfl, rfl⟩ := e'
  have hc := cnt_le a b t
  have hsz := h.size
  refine ⟨⟨h.path, hh, ?_, ?_, ?_, h.chars, h.size, ?_, fun p hp => (nomatch hp), List.nodup_nil, fun p hp => (nomatch hp)⟩, ?_⟩
  · rw [(hp.map _).nodup_iff]
    have := h.nodup
    rw [List.map_cons, hab] at this
    exact this
  · intro d hd
    rcases List.mem_cons.mp (hp.mem_iff.mp hd) with rfl | hd
    · exact ⟨a, b, rfl, Int.le_refl _, h1, by dsimp only; omega, h6, h7⟩
    · exact h.ent d (.tail _ hd)
  · intro x y hxy
    rcases h.cov x y hxy with ⟨d, hd, hd2⟩ | hq
    · rcases List.mem_cons.mp hd with rfl | hd
      · exact .inl ⟨(-(cnt a b t : Int), [a, b]), hp.mem_iff.mpr (.head _), hab.symm.trans hd2⟩
      · exact .inl ⟨d, hp.mem_iff.mpr (.tail _ hd), hd2⟩
    · exact absurd hq.1 (by simp)
  · rw [hp.length_eq]; exact h.many
  · unfold mz
    rw [toldSum_perm hp]
    unfold toldSum
    simp only [List.map_cons, List.sum_cons]
    omega
theorem pi_drop (h : PI t0 t (d0 :: r) fd sg []) {a b : Nat} (hab : d0.2 = [a, b]) (h1 : ¬ -(cnt a b t : Int) < -1) :
    PI t0 t (hpop (d0 :: r)) fd sg [] ∧ mz t (hpop (d0 :: r)) [] < mz t (d0 :: r) [] := by
  obtain ⟨hh, hp⟩ := heap_pop h.heap
  obtain ⟨a', b', e, h3, h4, h5, h6, h7⟩ := h.ent d0 (.head _)
  have e' : a = a' ∧ b = b' := by rw [hab] at e; simpa using e
  obtain ⟨rfl, rfl⟩ := e'
  refine ⟨⟨h.path, hh, ?_, ?_, ?_, h.chars, h.size, ?_, fun p hp => (nomatch hp), List.nodup_nil, fun p hp => (nomatch hp)⟩, ?_⟩
  · rw [(hp.map _).nodup_iff]
    have := h.nodup
    rw [List.map_cons, List.nodup_cons] at this
    exact this.2
  · intro d hd
    exact h.ent d (.tail _ (hp.mem_iff.mp hd))
  · intro x y hxy
    rcases h.cov x y hxy with ⟨d, hd, hd2⟩ | hq
    · rcases List.mem_cons.mp hd with rfl | hd
      · have : a = x ∧ b = y := by rw [hab] at hd2; simpa using hd2
        obtain ⟨rfl, rfl⟩ := this
        omega
      · exact .inl ⟨d, hp.mem_iff.mpr hd, hd2⟩
    · exact absurd hq.1 (by simp)
  · have := h.many
    rw [hp.length_eq]
    simp only [List.length_cons] at this
    omega
  · unfold mz
    rw [toldSum_perm hp]
    unfold toldSum
    simp only [List.map_cons, List.sum_cons]
    omega
theorem leD_of {d e : DT} (h : d.1 < e.1) : leD d e := leD_of_lt (ltD_iff.mpr (.inl h))
theorem leD_same {i j : Int} {p : List Nat} (h : i ≤ j) : leD (i, p) (j, p) := by
  by_cases e : i = j
  · subst e; exact leD_refl _
  · exact leD_of (by show i < j; omega)
/-- what lies on top, if it is told true, is the commonest -/
theorem pi_best (h : PI t0 t (d0 :: r) fd sg []) {a b : Nat} (hab : d0.2 = [a, b]) (h1 : -(cnt a b t : Int) = d0.1) (c : Nat) : bestP t c = d0 := by
  obtain ⟨a', b', e, h3, h4, h5, h6, h7⟩ := h.ent d0 (.head _)
  have hd0 : d0 = (-(cnt a b t : Int), [a, b]) := Prod.ext h1.symm hab
  have ecnt : ∀ x y, (((putL [x, y] c t).length : Int) - t.length) = -(cnt x y t : Int) := fun x y => by
    have := put_len x y c t
    show ((put x y c t).length : Int) - t.length = _
    omega
  refine minD_eq ?_ ?_
  · refine List.mem_append_left _ (List.mem_map.mpr ⟨[a, b], nbrs_of_cnt (by omega), ?_⟩)
    rw [ecnt, ← hd0]
  · intro d hd
    rcases List.mem_append.mp hd with hd | hd
    · obtain ⟨p, hp, rfl⟩ := List.mem_map.mp hd
      obtain ⟨x, y, rfl⟩ := nbrs_two hp
      rw [ecnt]
      by_cases h2 : 2 ≤ cnt x y t
      · rcases h.cov x y h2 with ⟨d, hd, hd2⟩ | hq
        · obtain ⟨x', y', e2, h8, _⟩ := h.ent d hd
          have e3 : x = x' ∧ y = y' := by rw [hd2] at e2; simpa using e2
          obtain ⟨rfl, rfl⟩ := e3
          have e4 : d = (d.1, [x, y]) := Prod.ext rfl hd2
          exact leD_trans (heap_min h.heap hd) (e4 ▸ leD_same h8)
        · exact absurd hq.1 (by simp)
      · exact leD_of (by show d0.1 < -(cnt x y t : Int); omega)
    · rw [List.mem_singleton.mp hd]
      exact leD_of (by show d0.1 < -1; omega)
theorem pi_take (h : PI t0 t (d0 :: r) fd sg []) {a b : Nat} (hab : d0.2 = [a, b]) (h1 : -(cnt a b t : Int) = d0.1) :
    fd.length ≤ 7 ∧ PI t0 (put a b (65 + fd.length) t) (hpop (d0 :: r)) (fd ++ [([a, b], [65 + fd.length])]) (65 + fd.length) (nbrs (put a b (65 + fd.length) t)) ∧
      mz (put a b (65 + fd.length) t) (hpop (d0 :: r)) (nbrs (put a b (65 + fd.length) t)) < mz t (d0 :: r) [] := by
  have hb := pi_best h hab h1 (65 + fd.length)
  obtain ⟨hh, hp⟩ := heap_pop h.heap
  obtain ⟨a', b', e, h3, h4, h5, h6, h7⟩ := h.ent d0 (.head _)
  have e' : a = a' ∧ b = b' := by rw [hab] at e; simpa using e
  obtain ⟨rfl, rfl⟩ := e'
  have hl := put_len a b (65 + fd.length) t
  have hsz := h.size
  have hge : 4 ≤ t.length := by
    -- two places that do not reach into one another
    have two : ∀ (n : Nat) (l : List Nat), l.length ≤ n → 2 * cnt a b l ≤ l.length := by
      intro n
      induction n with
      | zero => intro l hl; cases l with
        | nil => simp [cnt]
        | cons _ _ => simp at hl
      | succ n ih =>
        intro l hl
        match l with
        | [] => simp [cnt]
        | [_] => simp [cnt]
        | x :: y :: r =>
          simp only [List.length_cons] at hl
          rw [cnt]
          split
          · have := ih r (by omega)
            simp only [List.length_cons]; omega
          · have := ih (y :: r) (by simp; omega)
            simp only [List.length_cons] at this ⊢; omega
    have := two t.length t (Nat.le_refl _)
    omega
  have hk : fd.length ≤ 7 := by omega
  have na : 65 + fd.length ≠ a := h6.ne (by omega)
  have nb : 65 + fd.length ≠ b := h7.ne (by omega)
  have hnl := nbrs_len (put a b (65 + fd.length) t)
  have hch : ∀ c ∈ put a b (65 + fd.length) t, Ok (fd.length + 1) c := fun c hc => by
    rcases put_mem t.length t (Nat.le_refl _) hc with rfl | hc
    · unfold Ok; omega
    · exact (h.chars c hc).mono (by omega)
  have hnod := h.nodup
  rw [List.map_cons, List.nodup_cons] at hnod
  refine ⟨hk, ⟨?_, hh, ?_, ?_, ?_, by simpa using hch, ?_, ?_, ?_, nbrs_nodup _, fun p hp => hp⟩, ?_⟩
  · rw [List.length_append, List.length_singleton, plainTo, ← h.path, stepP]
    dsimp only
    rw [hb, if_pos (by omega), hab]
    rfl
  · rw [(hp.map _).nodup_iff]; exact hnod.2
  · intro d hd
    obtain ⟨x, y, e1, e2, e3, e4, e5, e6⟩ := h.ent d (.tail _ (hp.mem_iff.mp hd))
    have := cnt_put_le (a := a) (b := b) (e5.ne (by omega)) (e6.ne (by omega)) t.length t (Nat.le_refl _)
    refine ⟨x, y, e1, by omega, e3, e4, ?_, ?_⟩
    · exact e5.mono (by simp)
    · exact e6.mono (by simp)
  · intro x y hxy
    by_cases hq : x = 65 + fd.length ∨ y = 65 + fd.length
    · exact .inr ⟨nbrs_of_cnt (by omega), hq⟩
    · have hx : 65 + fd.length ≠ x := fun q => hq (.inl q.symm)
      have hy : 65 + fd.length ≠ y := fun q => hq (.inr q.symm)
      have hle := cnt_put_le (a := a) (b := b) hx hy t.length t (Nat.le_refl _)
      rcases h.cov x y (by omega) with ⟨d, hd, hd2⟩ | hz
      · rcases List.mem_cons.mp hd with rfl | hd
        · have : a = x ∧ b = y := by rw [hab] at hd2; simpa using hd2
          obtain ⟨rfl, rfl⟩ := this
          have := cnt_put_self na nb t.length t (Nat.le_refl _)
          omega
        · exact .inl ⟨d, hp.mem_iff.mpr hd, hd2⟩
      · exact absurd hz.1 (by simp)
  · simp only [List.length_append, List.length_singleton]
    omega
  · have := h.many
    rw [hp.length_eq]
    simp only [List.length_cons, List.length_append, List.length_nil] at this ⊢
    omega
  · intro p _ hs d hd e
    obtain ⟨x, y, e1, _, _, _, e5, e6⟩ := h.ent d (.tail _ (hp.mem_iff.mp hd))
    rw [← e, e1] at hs
    rcases List.mem_cons.mp hs with q | q
    · exact e5.ne (by omega) q
    · exact e6.ne (by omega) (List.mem_singleton.mp q)
  · unfold mz
    rw [toldSum_perm hp]
    unfold toldSum
    simp only [List.map_cons, List.sum_cons, List.length_nil]
    omega
theorem pi_skip {p : List Nat} (h : PI t0 t ds fd sg (p :: nb)) (h1 : ¬ (sg ∈ p ∧ 2 ≤ cntL p t)) : PI t0 t ds fd sg nb ∧ mz t ds nb ≤ mz t ds (p :: nb) := by
  refine ⟨⟨h.path, h.heap, h.nodup, h.ent, ?_, h.chars, h.size, ?_, fun q hq => h.fresh q (.tail _ hq), (List.nodup_cons.mp h.nbn).2, fun q hq => h.nbs q (.tail _ hq)⟩, ?_⟩
  · intro x y hxy
    rcases h.cov x y hxy with hd | ⟨hm, hq⟩
    · exact .inl hd
    · rcases List.mem_cons.mp hm with rfl | hm
      · exact absurd ⟨by rcases hq with rfl | rfl <;> simp, hxy⟩ h1
      · exact .inr ⟨hm, hq⟩
  · have := h.many
    simp only [List.length_cons] at this
    omega
  · unfold mz
    simp only [List.length_cons]
    omega
theorem pi_push {p : List Nat} (h : PI t0 t ds fd sg (p :: nb)) (h1 : sg ∈ p) (h2 : 2 ≤ cntL p t) :
    PI t0 t (sdF (ds ++ [(-(cntL p t : Int), p)]) (-(cntL p t : Int), p) 0 ds.length) fd sg nb ∧ mz t (sdF (ds ++ [(-(cntL p t : Int), p)]) (-(cntL p t : Int), p) 0 ds.length) nb ≤ mz t ds (p :: nb) := by
  obtain ⟨hh, hp⟩ := heap_push (d := (-(cntL p t : Int), p)) h.heap
  have hpn := h.nbs p (.head _)
  obtain ⟨a, b, rfl⟩ := nbrs_two hpn
  have e : cntL [a, b] t = cnt a b t := rfl
  rw [e] at h2 hh hp ⊢
  have hc := cnt_le a b t
  have hsz := h.size
  refine ⟨⟨h.path, hh, ?_, ?_, ?_, h.chars, h.size, ?_, ?_, (List.nodup_cons.mp h.nbn).2, fun q hq => h.nbs q (.tail _ hq)⟩, ?_⟩
  · rw [(hp.map _).nodup_iff, List.map_cons, List.nodup_cons]
    refine ⟨fun q => ?_, h.nodup⟩
    obtain ⟨d, hd, e2⟩ := List.mem_map.mp q
    exact h.fresh _ (.head _) h1 d hd e2
  · intro d hd
    rcases List.mem_cons.mp (hp.mem_iff.mp hd) with rfl | hd
    · exact ⟨a, b, rfl, Int.le_refl _, by dsimp only; omega, by dsimp only; omega, h.chars _ (nbrs_chars hpn (by simp)), h.chars _ (nbrs_chars hpn (by simp))⟩
    · exact h.ent d hd
  · intro x y hxy
    rcases h.cov x y hxy with ⟨d, hd, hd2⟩ | ⟨hm, hq⟩
    · exact .inl ⟨d, hp.mem_iff.mpr (.tail _ hd), hd2⟩
    · rcases List.mem_cons.mp hm with e2 | hm
      · exact .inl ⟨_, hp.mem_iff.mpr (.head _), e2.symm⟩
      · exact .inr ⟨hm, hq⟩
  · have := h.many
    rw [hp.length_eq]
    simp only [List.length_cons] at this ⊢
    omega
  · intro q hq hs d hd
    rcases List.mem_cons.mp (hp.mem_iff.mp hd) with rfl | hd
    · intro e2
      exact (List.nodup_cons.mp h.nbn).1 (by rw [show [a, b] = q from e2]; exact hq)
    · exact h.fresh q (.tail _ hq) hs d hd
  · unfold mz
    rw [toldSum_perm hp]
    unfold toldSum
    simp only [List.map_cons, List.sum_cons, List.length_cons]
    omega
theorem pi_end (h : PI t0 t [] fd sg []) : plainTo t0 10 = (t, fd) := by
  have hs : ∀ c, stepP c (t, fd) = (t, fd) := by
    intro c
    unfold stepP
    rw [if_neg]
    intro hlt
    dsimp only at hlt
    have hm : bestP t c ∈ cntsP t c ++ [(-1, [])] := minD_mem (by simp)
    rcases List.mem_append.mp hm with h1 | h1
    · obtain ⟨p, hp, e⟩ := List.mem_map.mp h1
      obtain ⟨x, y, rfl⟩ := nbrs_two hp
      rw [← e] at hlt
      have := put_len x y c t
      have h2 : 2 ≤ cnt x y t := by
        have : ((put x y c t).length : Int) - t.length < -1 := hlt
        omega
      rcases h.cov x y h2 with ⟨d, hd, _⟩ | hq
      · cases hd
      · exact absurd hq.1 (by simp)
    · rw [List.mem_singleton.mp h1] at hlt
      exact absurd hlt (by decide)
  have key : ∀ j, plainTo t0 (fd.length + j) = (t, fd) := by
    intro j
    induction j with
    | zero => exact h.path.symm
    | succ j ih =>
      show stepP _ (plainTo t0 (fd.length + j)) = _
      rw [ih, hs]
  have hsz := h.size
  have := key (10 - fd.length)
  rwa [show fd.length + (10 - fd.length) = 10 by omega] at this
end
end Mine
end
section
open PySem PySem.W PyProof.Rows PySem.Calls
open PySem.Builtin.Str PySem.StrLaws
set_option maxRecDepth 100000
set_option maxHeartbeats 2000000
namespace Mine
theorem occL_len {w : List Nat} (hw : 0 < w.length) : ∀ (n : Nat) (l : List Nat) (k : Nat), (occL w n l k).length ≤ l.length
  | 0, _, _ => Nat.zero_le _
  | _ + 1, [], _ => Nat.zero_le _
  | n + 1, c :: r, k => by
    rw [occL]
    split
    · have := occL_len hw n ((c :: r).drop w.length) (k + w.length)
      simp only [List.length_drop, List.length_cons] at this ⊢
      omega
    · have := occL_len hw n r (k + 1)
      simp only [List.length_cons]
      omega
theorem join_split {l w g : List Nat} (hw : 0 < w.length) (h1 : ∀ c ∈ l, c < 256) (h2 : ∀ c ∈ w, c < 256) : Txt.join (ofL g) (Txt.split (ofL l) (ofL w)) = ofL (repl w g l.length l) := by
  rw [split_is l w hw h1 h2]
  show glued _ _ = _
  rw [glued_eq_join]
  have := join_parts l w g hw l.length 0 0 (by omega) (Nat.le_refl _) (Nat.zero_le _)
  simpa using this
theorem split_len {l : List Nat} {a b : Nat} (h1 : ∀ c ∈ l, c < 256) (ha : a < 256) (hb : b < 256) : (Txt.split (ofL l) (ofL [a, b])).length = cnt a b l + 1 := by
  rw [split_is l [a, b] (by simp) h1 (by simp [ha, hb]), parts_len, occL_cnt a b _ _ _ (Nat.le_refl _)]
theorem join_put {l : List Nat} {a b c : Nat} (h1 : ∀ c ∈ l, c < 256) (ha : a < 256) (hb : b < 256) : Txt.join (ofL [c]) (Txt.split (ofL l) (ofL [a, b])) = ofL (put a b c l) := by
  rw [join_split (by simp) h1 (by simp [ha, hb]), repl_put a b c _ _ (Nat.le_refl _)]
theorem join_unput {l : List Nat} {a b c : Nat} (h1 : ∀ c ∈ l, c < 256) (hc : c < 256) : Txt.join (ofL [a, b]) (Txt.split (ofL l) (ofL [c])) = ofL (unput a b c l) := by
  rw [join_split (by simp) h1 (by simp [hc]), repl_unput a b c _ _ (Nat.le_refl _)]
theorem rok_cons {l w g : List Nat} {r : List Str} (hw : 0 < w.length) (h1 : ∀ c ∈ l, c < 256) (h2 : ∀ c ∈ w, c < 256) (hl : l.length ≤ 30) (hg : g.length ≤ 2) (hr : r.length ≤ 100)
    (h : ROk (Txt.join (ofL g) (Txt.split (ofL l) (ofL w))) r) : ROk (ofL l) (ofL w :: ofL g :: r) := by
  have e := split_is l w hw h1 h2
  have h3 := occL_len hw l.length l 0
  have h4 := parts_sum (ofL l) w.length (occL w l.length l 0) 0
  rw [ofL_len] at h4
  have h5 : ((occL w l.length l 0).length + 1) * l.length ≤ 31 * 30 := Nat.mul_le_mul (by omega) hl
  refine .cons (by rw [ofL_len]; exact hw) (by rw [ofL_len]; omega) (by rw [ofL_len]; exact hg) ?_ ?_ hr h
  · rw [e, parts_len]; omega
  · rw [e]; omega
def swapP (p : PD) : PD := (p.2, p.1)
structure Trip (t0 t : List Nat) (fd : List PD) (i : Nat) : Prop where
  len : t.length ≤ 18
  chars : ∀ c ∈ t, Ok i c
  num : fd.length ≤ i
  fwd : ∀ rest : List Str, rest.length + 2 * i ≤ 40 → ROk (ofL t) rest → ROk (ofL t0) ((flatP fd).map ofL ++ rest) ∧ replS (ofL t0) ((flatP fd).map ofL ++ rest) = replS (ofL t) rest
  bwd : ∀ rest : List Str, rest.length ≤ 40 → ROk (ofL t0) rest → ROk (ofL t) ((flatP (fd.reverse.map swapP)).map ofL ++ rest) ∧ replS (ofL t) ((flatP (fd.reverse.map swapP)).map ofL ++ rest) = replS (ofL t0) rest
theorem bestP_chars {t : List Nat} {sg a b : Nat} (h : (bestP t sg).1 < -1) (e : (bestP t sg).2 = [a, b]) : a ∈ t ∧ b ∈ t := by
  have hm : bestP t sg ∈ cntsP t sg ++ [(-1, [])] := minD_mem (by simp)
  rcases List.mem_append.mp hm with h1 | h1
  · obtain ⟨p, hp, e2⟩ := List.mem_map.mp h1
    rw [← e2] at e
    dsimp only at e
    subst e
    exact ⟨nbrs_chars hp (by simp), nbrs_chars hp (by simp)⟩
  · rw [List.mem_singleton.mp h1] at h
    exact absurd h (by decide)
theorem trip {t0 : List Nat} (h1 : ∀ c ∈ t0, Ok 0 c) (h2 : t0.length ≤ 18) : ∀ i, i ≤ 10 → Trip t0 (plainTo t0 i).1 (plainTo t0 i).2 i
  | 0, _ => ⟨h2, h1, Nat.le_refl _, fun rest _ hr => ⟨hr, rfl⟩, fun rest _ hr => ⟨hr, rfl⟩⟩
  | i + 1, hi => by
    have ih := trip h1 h2 i (by omega)
    rw [plainTo]
    generalize hx : plainTo t0 i = x at ih
    obtain ⟨t, fd⟩ := x
    dsimp only at ih
    unfold stepP
    dsimp only
    split
    · rename_i hlt
      obtain ⟨a, b, e⟩ := bestP_two hlt
      obtain ⟨ma, mb⟩ := bestP_chars hlt e
      rw [e]
      dsimp only
      have oa := ih.chars a ma
      have ob := ih.chars b mb
      have c256 : ∀ c ∈ t, c < 256 := fun c hc => (ih.chars c hc).lt (by omega)
      have hsg : (65 + i) ∉ t := fun q => (ih.chars _ q).ne (by omega) rfl
      have hpl := put_len a b (65 + i) t
      have hpc : ∀ c ∈ put a b (65 + i) t, Ok (i + 1) c := fun c hc => by
        rcases put_mem t.length t (Nat.le_refl _) hc with rfl | hc
        · unfold Ok; omega
        · exact (ih.chars c hc).mono (by omega)
      have hl := ih.len
      have hn := ih.num
      show Trip t0 (put a b (65 + i) t) (fd ++ [([a, b], [65 + i])]) (i + 1)
      refine ⟨by omega, hpc, by simp; omega, ?_, ?_⟩
      · intro rest hr hok
        have e1 : (flatP (fd ++ [([a, b], [65 + i])])).map ofL ++ rest = (flatP fd).map ofL ++ (ofL [a, b] :: ofL [65 + i] :: rest) := by
          simp [flatP]
        have hj := join_put (c := 65 + i) c256 (oa.lt (by omega)) (ob.lt (by omega))
        have hok2 : ROk (ofL t) (ofL [a, b] :: ofL [65 + i] :: rest) := rok_cons (by simp) c256 (by simp [oa.lt (show i ≤ 10 by omega), ob.lt (show i ≤ 10 by omega)]) (by omega) (by simp) (by omega) (by rw [hj]; exact hok)
        rw [e1]
        obtain ⟨g1, g2⟩ := ih.fwd _ (by simp; omega) hok2
        refine ⟨g1, g2.trans ?_⟩
        show replS (Txt.join (ofL [65 + i]) (Txt.split (ofL t) (ofL [a, b]))) rest = _
        rw [hj]
      · intro rest hr hok
        have e1 : (flatP ((fd ++ [([a, b], [65 + i])]).reverse.map swapP)).map ofL ++ rest = ofL [65 + i] :: ofL [a, b] :: ((flatP (fd.reverse.map swapP)).map ofL ++ rest) := by
          simp [flatP, swapP]
        have p256 : ∀ c ∈ put a b (65 + i) t, c < 256 := fun c hc => (hpc c hc).lt (by omega)
        have hj := join_unput (a := a) (b := b) (c := 65 + i) p256 (by omega)
        rw [unput_put a b (65 + i) t.length t (Nat.le_refl _) hsg] at hj
        obtain ⟨g1, g2⟩ := ih.bwd rest hr hok
        rw [e1]
        refine ⟨rok_cons (by simp) p256 (by simp; omega) (by omega) (by simp) ?_ (by rw [hj]; exact g1), ?_⟩
        · rw [List.length_append, List.length_map, flatP_len, List.length_map, List.length_reverse]
          omega
        · show replS (Txt.join (ofL [a, b]) (Txt.split (ofL (put a b (65 + i) t)) (ofL [65 + i]))) _ = _
          rw [hj]; exact g2
    · exact ⟨ih.len, fun c hc => (ih.chars c hc).mono (by omega), Nat.le_succ_of_le ih.num, fun rest hr => ih.fwd rest (by omega), ih.bwd⟩
end Mine
end
section
open PySem PySem.W PyProof.Rows PySem.Calls PyProof.V PySem.Spec
set_option maxRecDepth 100000
set_option maxHeartbeats 2000000
namespace Mine
section
variable {prog : Program} {w : World} {A : Around} {E : Value → Shared → Prop} {s : Shared} {h₀ : Heap} {L : Addr} {news : List (Addr × Obj)} {v u : Value} {d e : Dat} {Q : Value → Shared → Prop}
open Classical in
theorem ne_M (N : News h₀ L s.heap news) (ha : DatIn news v d) (hb : DatIn news u e) (ka : kqdOk 8 d = true) (kb : kqdOk 8 e = true) (hu : A.units + 64 < cLine) (h : Q (.bool (!decide (d = e))) s) :
    wpAny (model prog w) A (compareOp .NotEq v u) Q E s := by
  obtain ⟨as, ra⟩ := kqd_in N 8 ha ka
  obtain ⟨bs, rb⟩ := kqd_in N 8 hb kb
  have la := kqd_lay 8 d ka
  have lb := kqd_lay 8 e kb
  have q := kqd_eqv 8 d e 8 ka kb
  have e1 : PyData.eqv (kqdP d) (kqdP e) = decide (d = e) := by
    by_cases hq : d = e
    · rw [decide_eq_true hq]; exact q.mpr hq
    · rw [decide_eq_false hq]; exact Bool.eq_false_iff.mpr fun x => hq (q.mp x)
  refine ne_dataH ra rb ?_ ?_ hu (by rw [e1]; exact h)
  · unfold SeqAt.shaped; rw [la.1, Bool.true_and]; exact decide_eq_true (Nat.le_trans la.2 (by decide))
  · unfold SeqAt.shaped; rw [lb.1, Bool.true_and]; exact decide_eq_true (Nat.le_trans lb.2 (by decide))
end
def dDat (d : DT) : Dat := .tuple [.int d.1, .str (ofL d.2)]
def pDat (d : PD) : Dat := .tuple [.str (ofL d.1), .str (ofL d.2)]
theorem IT.dat {T : List (Addr × Obj)} {v : Value} {d : DT} (h : IT T v d) : DatIn T v (dDat d) := by
  obtain ⟨a, t1, t2, n, rfl, hm⟩ := h
  exact .tuple (vs := [.int d.1 t1, .str (ofL d.2) t2]) hm (.cons (.int _ _) (.cons (.str _ _) .nil))
theorem ITs.dat {T : List (Addr × Obj)} : ∀ {vs : List Value} {ds : List DT}, ITs T vs ds → DatAll T vs (ds.map dDat)
  | [], [], _ => .nil
  | _ :: _, _ :: _, h => .cons h.1.dat (ITs.dat h.2)
theorem PT.dat {T : List (Addr × Obj)} {v : Value} {d : PD} (h : PT T v d) : DatIn T v (pDat d) := by
  obtain ⟨a, t1, t2, n, rfl, hm⟩ := h
  exact .tuple (vs := [.str (ofL d.1) t1, .str (ofL d.2) t2]) hm (.cons (.str _ _) (.cons (.str _ _) .nil))
theorem PTs.dat {T : List (Addr × Obj)} : ∀ {vs : List Value} {ds : List PD}, PTs T vs ds → DatAll T vs (ds.map pDat)
  | [], [], _ => .nil
  | _ :: _, _ :: _, h => .cons h.1.dat (PTs.dat h.2)
theorem strOk_ofL {l : List Nat} (h : ∀ c ∈ l, c < 256) : PyData.strOk (ofL l) = true := by
  unfold PyData.strOk
  simp [ofL]
  intro c hc
  have := h c hc
  omega
theorem dDat_ok {d : DT} (h : ∀ c ∈ d.2, c < 256) (n : Nat) : kqdOk (n + 1) (dDat d) = true := by
  have e := strOk_ofL h
  cases n <;> simp [dDat, kqdOk, e]
theorem pDat_ok {d : PD} (h : ∀ c ∈ d.1, c < 256) (h2 : ∀ c ∈ d.2, c < 256) (n : Nat) : kqdOk (n + 1) (pDat d) = true := by
  have e := strOk_ofL h
  have e2 := strOk_ofL h2
  cases n <;> simp [pDat, kqdOk, e, e2]
theorem dDat_inj {d e : DT} (h : dDat d = dDat e) : d = e := by
  unfold dDat at h
  simp only [Dat.tuple.injEq, List.cons.injEq, Dat.int.injEq, Dat.str.injEq, and_true] at h
  exact Prod.ext h.1 (ofL_inj h.2)
section
variable {prog : Program} {w : World} {A : Around} {E : Value → Shared → Prop} {s : Shared} {h₀ : Heap} {L : Addr} {news T₀ : List (Addr × Obj)} {Q : Value → Shared → Prop}
theorem ne_nil {H l : Addr} {vs : List Value} {ds : List DT} {n k : Nat} (N : News h₀ L s.heap news) (ma : (H, W.listOf vs.toArray n) ∈ news) (mb : (l, W.listOf ([] : List Value).toArray k) ∈ news) (hs : Sub T₀ news) (hv : ITs T₀ vs ds)
    (hc : ∀ d ∈ ds, ∀ c ∈ d.2, c < 256) (hu : A.units + 64 < cLine) (h : Q (.bool (decide (0 < ds.length))) s) : wpAny (model prog w) A (compareOp .NotEq (.ref H) (.ref l)) Q E s := by
  refine ne_M N (.list ma (DatAll.mono hs hv.dat)) (.list mb .nil) ?_ rfl hu ?_
  · simp only [kqdOk, List.all_eq_true]
    intro x hx
    obtain ⟨d, hd, rfl⟩ := List.mem_map.mp hx
    exact dDat_ok (hc d hd) _
  · have e : (!@decide (Dat.list (ds.map dDat) = Dat.list []) (Classical.propDecidable _)) = decide (0 < ds.length) := by
      cases ds with
      | nil => simp
      | cons d r => simp
    rw [e]; exact h
theorem ne_pair {v u : Value} {d e : DT} (N : News h₀ L s.heap news) (ha : IT news v d) (hb : IT news u e) (ka : ∀ c ∈ d.2, c < 256) (kb : ∀ c ∈ e.2, c < 256) (hu : A.units + 64 < cLine) (h : Q (.bool (!decide (d = e))) s) :
    wpAny (model prog w) A (compareOp .NotEq v u) Q E s := by
  refine ne_M N ha.dat hb.dat (dDat_ok ka _) (dDat_ok kb _) hu ?_
  have e : @decide (dDat d = dDat e) (Classical.propDecidable _) = decide (d = e) := by
    by_cases hq : d = e
    · subst hq; simp
    · rw [decide_eq_false hq]; exact @decide_eq_false _ (Classical.propDecidable _) fun q => hq (dDat_inj q)
  rw [e]; exact h
end
end Mine
end
section
open PySem PySem.W PyProof.Rows PySem.Calls
set_option maxRecDepth 100000
set_option maxHeartbeats 2000000
namespace Mine
section
variable {prog : Program} {w : World} {A : Around} {E : Value → Shared → Prop} {s : Shared} {env : Env} {h₀ : Heap} {m : Str → Option Value} {news : List (Addr × Obj)}
theorem unpack2 {xi xc : Str} {pk pv pt : Pos} {x1 : Nat} {a : Addr} {u1 u2 : Value} {c : Nat} {Q : Unit → Shared → Prop} (hh : A.handled = none)
    (hxi : env.kindOf xi = some .local) (hxc : env.kindOf xc = some .local)
    (hp : (env.scope.kind == .class || (env.scope.kind == .module && env.locals != env.globals)) = false)
    (F : Fr h₀ env.locals s.heap m) (N : News h₀ env.locals s.heap news) (hm : (a, tO u1 u2 c) ∈ news)
    (h : ∀ h' tk, Fr h₀ env.locals h' (fun z => if z = xc then some u2 else if z = xi then some u1 else m z) → News h₀ env.locals h' news → Q () { s with heap := h', toks := tk }) :
    wpAny (model prog w) A (assign (.Tuple [.Name xi pk, .Name xc pv] x1 pt) env (.ref a)) Q E s := by
  have ht₁ : IsTup s.heap a #[u1, u2] := ⟨_, (N _ hm).1, rfl, _, rfl⟩
  refine assign_Tuple_tuple hh ht₁ rfl rfl fun h₃ hx₃ => ?_
  replace hx₃ : Heap.ExtBut s.heap.objs.size s.heap h₃ := hx₃
  have up₃ : ∀ b o, s.heap.get? b = some o → h₃.get? b = some o := fun b o x => hx₃ b o (Nat.ne_of_lt (Heap.lt_size x)) x
  have F₃ : Fr h₀ env.locals h₃ m := ⟨F.ns.at' fun o e => up₃ _ o e, fun b o e => up₃ b o (F.keep b o e), F.above⟩
  have N₃ : News h₀ env.locals h₃ news := fun p hp => ⟨up₃ _ _ (N p hp).1, (N p hp).2⟩
  show wpAny _ A (do holding [u2] (assign (.Name xi pk) env u1); do holding [] (assign (.Name xc pv) env u2); pure ()) _ _ _
  refine wpAny_bind (wpAny_holding (wpAny_assign_Name (wpAny_storeName_local hxi F₃.ns (fun h₄ hn₄ hs₄ => ?_) hp)))
  replace hs₄ : Heap.SameBut env.locals h₃ h₄ := hs₄
  have F₄ := F₃.set hn₄ hs₄
  refine wpAny_bind (wpAny_holding (wpAny_assign_Name (wpAny_storeName_local hxc F₄.ns (fun h₅ hn₅ hs₅ => wpAny_pure ?_) hp)))
  replace hs₅ : Heap.SameBut env.locals h₄ h₅ := hs₅
  exact h h₅ _ (F₄.set hn₅ hs₅) ((N₃.set hs₄).set hs₅)

variable {target : PySem.Expr} {body : List Stmt} {Q : Flow → Shared → Prop}
theorem iter_listW {l : Addr} {vs : List Value} {m₀ : Str → Option Value} (J : Nat → (Str → Option Value) → List (Addr × Obj) → Prop)
    (B : Nat → Value → (Str → Option Value) → List (Addr × Obj) → Prop)
    (hh : A.handled = none) (hl : s.heap.IsList l vs.toArray) (hlL : l ≠ env.locals) (F : Fr h₀ env.locals s.heap m₀) (N : News h₀ env.locals s.heap news) (hJ : J 0 m₀ news)
    (hE : PassesOwn (model prog w) A env E)
    (hgo : ∀ I i v m₁ nx h tk own, vs[i]? = some v → J i m₁ nx → (∀ p ∈ own, p.1 = I ∨ p.1 = l) → (∀ p ∈ nx, p.1 ≠ I) → Fr h₀ env.locals h m₁ → News h₀ env.locals h (own ++ nx) →
      wpAny (model prog w) A (letOwnedTupleGo target (.ref I) v) (fun _ s₁ => wpAny (model prog w) A (assign target env v) (fun _ s₂ =>
        ∃ h' tk' m' nx', s₂ = { s with heap := h', toks := tk' } ∧ Fr h₀ env.locals h' m' ∧ News h₀ env.locals h' (own ++ nx') ∧ (∀ p ∈ nx', p.1 ≠ I) ∧ B i v m' nx') (fun _ _ => False) s₁) (fun _ _ => False) { s with heap := h, toks := tk })
    (turn : ∀ I i v m₁ nx h tk own, vs[i]? = some v → B i v m₁ nx → (∀ p ∈ own, p.1 = I ∨ p.1 = l) → (∃ o, (I, o) ∈ own) → I ≠ l → (∀ p ∈ nx, p.1 ≠ I) → Fr h₀ env.locals h m₁ → News h₀ env.locals h (own ++ nx) →
      wpAny (model prog w) A (execs body env) (StepM h₀ env.locals I own (J (i + 1)) s Q) E { s with heap := h, toks := tk })
    (done : ∀ m₁ nx h tk, J vs.length m₁ nx → Fr h₀ env.locals h m₁ → News h₀ env.locals h nx → Q .next { s with heap := h, toks := tk }) :
    wpAny (model prog w) A (pyIter (.ref l)) (fun it s₂ => codeAny (model prog w) A (.forLoop target it body [] env) (fun r s' => match r with | .ok f => Q f s' | .error e => cameBackBy (model prog w) A env E e s') s₂) E s := by
  obtain ⟨ol, hol, _⟩ := id hl
  have hlt : l < s.heap.objs.size := Heap.lt_size hol
  have hne : l ≠ s.heap.objs.size := Nat.ne_of_lt hlt
  refine wpAny_pyIter_list hl ?_
  have Wk := Walks.list (prog := prog) (w := w) hh s.heap.objs.size l hne vs.toArray
  have hlen : vs.toArray.size = vs.length := by simp
  rw [hlen] at Wk
  have hIL : env.locals ≠ s.heap.objs.size := Nat.ne_of_lt F.ns.lt
  have own : ∀ {p : Addr × Obj}, p.1 ∈ [s.heap.objs.size, l] → p.1 = s.heap.objs.size ∨ p.1 = l := fun hp => by
    rcases List.mem_cons.mp hp with e | e
    · exact .inl e
    · exact .inr (List.mem_singleton.mp e)
  refine forW J B Wk ?_ (next_is_new F) (fun p hp => Nat.ne_of_lt (Heap.lt_size (N p hp).1)) ⟨⟨_, Heap.get?_push_size _ rfl, rfl, rfl⟩, hl.at fun o e => Heap.get?_push_of_some _ e⟩ (F.push _) (fun p hp => ⟨Heap.get?_push_of_some _ (N p hp).1, (N p hp).2⟩) hJ hE (fun i h ⟨⟨o, ho, _⟩, _⟩ => ⟨o, ho⟩)
    (fun i v m₁ nx h tk own' hi hv hj ho hne' F N => hgo _ i v m₁ nx h tk own' (by simpa using hv) hj (fun p hp => own (ho p hp)) hne' F N)
    (fun i v m₁ nx h tk own' hi hv hj ho hoI hne' F N => turn _ i v m₁ nx h tk own' (by simpa using hv) hj (fun p hp => own (ho p hp)) hoI (Ne.symm hne) hne' F N)
    (fun m₁ nx h tk hj _ F N => done m₁ nx h tk hj F N)
  intro hm
  rcases List.mem_cons.mp hm with e | hm
  · exact hIL e
  · exact hlL (List.mem_singleton.mp hm).symm
end
end Mine
end
section
open PySem PySem.W PyProof.Rows PySem.Calls
set_option maxRecDepth 100000
set_option maxHeartbeats 2000000
namespace Mine
local macro_rules | `(tactic| walk_at "ST") => `(tactic| repeat' (
  (fail_if_success (with_reducible show wpAny _ _ (exec (Stmt.While _ _ _ _) _) _ _ _));
  (fail_if_success (with_reducible show wpAny _ _ (exec (Stmt.For _ _ _ _ _) _) _ _ _));
  (fail_if_success (with_reducible show wpAny _ _ (exec (Stmt.Assign _ (Expr.ListComp _ _ _ _) _) _) _ _ _));
  (fail_if_success (with_reducible show wpAny _ _ (pyIter _) _ _ _));
  (fail_if_success (with_reducible show wpAny _ _ (call (Value.ref _) _ _) _ _ _));
  (fail_if_success (with_reducible show wpAny _ _ (compareOp _ (Value.ref _) _) _ _ _));
  (fail_if_success (with_reducible show wpAny _ _ (subscriptTail _ _ (Value.ref _) _) _ _ _));
  (fail_if_success (with_reducible show wpAny _ _ (call (Value.builtin "str.split") _ _) _ _ _));
  (fail_if_success (with_reducible show wpAny _ _ (storeName _ (Str.ofString "text") _) _ _ _));
  (fail_if_success (with_reducible show wpAny _ _ (exec (Stmt.Assign [Expr.Name (Str.ofString "sign") _] _ _) _) _ _ _));
  (fail_if_success (with_reducible show wpAny _ _ (call (Value.builtin "len") _ _) _ _ _));
  (fail_if_success (with_reducible show wpAny _ _ (subscriptTail _ _ (Value.str _ _) _) _ _ _));
  (fail_if_success (with_reducible show wpAny _ _ (compareOp CmpOp.In _ _) _ _ _));
  first | (k_unfold; (try dsimp only)) | walk1 | (dsimp only; walk1)))
local macro_rules | `(tactic| walk_at "eval Name") => `(tactic| (k_here; (with_reducible show wpAny _ _ (eval (Expr.Name _ _) (compEnvC _ _ _ _)) _ _ _); (rename Fr _ _ _ _ => fM'); (rename News _ _ _ _ => nM'); k_dflt (first
  | (refine nmL fM' (by with_reducible assumption) ?_ rfl rfl (by decide))
  | (refine nmC nM' rfl (by with_reducible assumption) (by with_reducible assumption) ?_ rfl rfl (by decide))
  | (refine nmG ?kC fM' (by k_is) ?_ rfl rfl rfl (by decide); (case kC => assumption))
  | (refine nmB ?kC fM' (by k_is) (by boot_fast) (by decide) ?_ rfl rfl rfl rfl (by decide); (case kC => assumption)))))

theorem in_M {prog : Program} {w : World} {A : Around} {E : Value → Shared → Prop} {s : Shared} {Q : Value → Shared → Prop} {c : Nat} {p : List Nat} {u t : Tok} (h : Q (.bool (decide (c ∈ p))) s) :
    wpAny (model prog w) A (compareOp .In (.str (ofL [c]) u) (.str (ofL p) t)) Q E s := by
  refine PySem.SB.contains ?_
  have e : Txt.contains (ofL p) (ofL [c]) = decide (c ∈ p) := by
    have := PySem.StrLaws.found_one (ofL p) c
    have e2 : (ofL p).cps.toList = p := by simp [ofL]
    rw [e2] at this
    exact this
  rw [e]; exact h
theorem sign_M {prog : Program} {w : World} {A : Around} {E : Value → Shared → Prop} {s : Shared} {Q : Value → Shared → Prop} {value slice : PySem.Expr} {k : Nat} {t u : Tok} (hk : k < 10) (h : Q (.str (ofL [65 + k]) s.toks) { s with toks := s.toks + 1 })
    (hs : subscripted slice false (.str (Str.ofString "ABCDEFGHIJ") t) (.int (k : Int) u) = operate [.str (Str.ofString "ABCDEFGHIJ") t, .int (k : Int) u] (getItem (.str (Str.ofString "ABCDEFGHIJ") t) (.int (k : Int) u)) := by with_unfolding_all rfl)
    (ht : ∀ r, letTemporaryGo value (.str (Str.ofString "ABCDEFGHIJ") t) r = pure () := by intro _; with_unfolding_all rfl) :
    wpAny (model prog w) A (subscriptTail value slice (.str (Str.ofString "ABCDEFGHIJ") t) (.int (k : Int) u)) Q E s := by
  have el : Str.ofString "ABCDEFGHIJ" = ofL [65, 66, 67, 68, 69, 70, 71, 72, 73, 74] := by decide +kernel
  refine KXi.item (n := 10) (by rw [el, ofL_len]; rfl) (by omega) (by omega) (by decide) (fun _ => ?_) hs ht
  have e : Txt.item (Str.ofString "ABCDEFGHIJ") (k : Int) = ofL [65 + k] := by
    rw [el, item_at _ (by omega) (by simp; omega)]
    match k, hk with
    | 0, _ => rfl
    | 1, _ => rfl
    | 2, _ => rfl
    | 3, _ => rfl
    | 4, _ => rfl
    | 5, _ => rfl
    | 6, _ => rfl
    | 7, _ => rfl
    | 8, _ => rfl
    | 9, _ => rfl
  rw [e]; exact h
theorem mem3 {own T : List (Addr × Obj)} {x y z p : Addr × Obj} (h : p ∈ own ++ x :: y :: z :: T) : p ∈ x :: y :: z :: (own ++ T) := by
  simp only [List.mem_cons, List.mem_append] at h ⊢
  rcases h with h | h | h | h | h
  · exact .inr (.inr (.inr (.inl h)))
  · exact .inl h
  · exact .inr (.inl h)
  · exact .inr (.inr (.inl h))
  · exact .inr (.inr (.inr (.inr h)))
theorem pi_sg {t0 t : List Nat} {ds : List DT} {fd : List PD} {sg sg' : Nat} (h : PI t0 t ds fd sg []) : PI t0 t ds fd sg' [] :=
  ⟨h.path, h.heap, h.nodup, h.ent, fun x y hxy => (h.cov x y hxy).elim .inl fun q => absurd q.1 (by simp), h.chars, h.size, h.many, fun p hp => (nomatch hp), h.nbn, h.nbs⟩
theorem ne_same {prog : Program} {w : World} {A : Around} {E : Value → Shared → Prop} {s : Shared} {h₀ : Heap} {L : Addr} {news : List (Addr × Obj)} {Q : Value → Shared → Prop} {v u : Value} {d : DT} (N : News h₀ L s.heap news) (ha : IT news v d) (hb : IT news u d) (ka : ∀ c ∈ d.2, c < 256) (hu : A.units + 64 < cLine) (h : Q (.bool false) s) :
    wpAny (model prog w) A (compareOp .NotEq v u) Q E s := ne_pair N ha hb ka ka hu (by simpa using h)
theorem pressed_spec {prog : Program} {w : World} {A : Around} {E : Value → Shared → Prop} {s : Shared} {h₀ : Heap} {L : Addr} {m : Str → Option Value} {news : List (Addr × Obj)}
    (C : Cx w h₀) (F : Fr h₀ L s.heap m) (N : News h₀ L s.heap news) (hA : ALe A 490) {text : List Nat} {t1 : Tok} (hlen : text.length ≤ 18) (hch : ∀ c ∈ text, Ok 0 c)
    {Q : Value → Shared → Prop} (hQ : ∀ h' tk a l fs ep t2 c T, Fr h₀ L h' m → News h₀ L h' ((a, tO (.str (ofL (plainTo text 10).1) t2) (.ref l) c) :: (l, W.listOf fs.toArray ep) :: T) → Sub news T → PTs T fs (plainTo text 10).2 → (∀ p ∈ T, p.1 ≠ a ∧ p.1 ≠ l) → a ≠ l → Q (.ref a) {s with heap := h', toks := tk}) :
    wpAny (model prog w) A (call (.ref 75) [.str (ofL text) t1]) Q E s := by
  refine wpAny_lv hA (wpAny_call ?_)
  refine callMc C F N (by k_is) (by k_is) (by decide) (binds := [(Str.ofString "text", .str (ofL text) t1)]) (BindsTo.of_eq rfl) rfl (by decide) ?_
  clear F N C
  intro g L' h' tk cells C' F' N' hc l1
  obtain ⟨X', mg, mb, T'⟩ := id C'
  try dsimp only
  k_fold
  replace F' : Fr g L' h' (fun _ => none) := F'
  cases hc with
  | cons hd2 hc =>
  cases hc
  rename_i oT
  replace hd2 : oT.data = .cell (some (.str (ofL text) t1)) := hd2
  replace N' : News g L' h' ((L' + 1, oT) :: news) := N'
  have nT0 : ∀ p ∈ news, p.1 ≠ L' + 1 := fun p hp => by have := ltN (l1 p hp); exact neN (by omega)
  have c256 : ∀ c ∈ text, c < 256 := fun c hc => (hch c hc).lt (by omega)
  walk_at "ST"
  refine Assign_comp (cl := [(Str.ofString "text", L' + 1)]) rfl rfl rfl (by decide) ?_
  walk_at "ST"
  rename Fr _ _ _ _ => F3
  rename News _ _ _ _ => N3
  refine nbrs_spec C' F3 N3 (ALe.lvDeeper.mono (by decide)) (by omega) ?_
  intro h4 tk4 l vs ep4 F4 N4 l4 hvs
  have hvl := hvs.len
  have hvl2 := nbrs_len text
  clear F3 N3
  have hcl : ((nbrs text).map fun p => ((-(cntL p text : Int), p) : DT)).length = vs.length := by rw [hvl, List.length_map]
  generalize hds1 : ((nbrs text).map fun p => ((-(cntL p text : Int), p) : DT)) = ds1 at hcl
  refine comp_listM (fun k ys nx => ∃ U, nx = U ++ ((l, W.listOf vs.toArray ep4) :: (L' + 1, oT) :: news) ∧ ITs U ys (ds1.take k) ∧ (∀ p ∈ U, l < p.1)) (fun k v mc => mc (Str.ofString "two") = some v)
    rfl (by decide) rfl (News.isList N4 (.head _)) ?_ (by omega) F4 N4 ⟨[], rfl, trivial, fun p hp => nomatch hp⟩ ?_ ?_ ?_
  · exact (N4 _ (.head _)).2.1
  · intro C I i v h tk mc nx ys nj hv hJ hsub hit F N
    exact go_name (l := l) (i := 0) rfl rfl F N (fun mc' h => h)
  · rintro C D I' k v ys nx ep5 oL h5 tk5 mc own5 hv ⟨U, rfl, hU, hUl⟩ hB hyl hown5 ⟨oI', hoI'⟩ hnx F5 N5
    clear F4 N4
    refine wpAny_tests_nil ?_
    simp only [if_true]
    obtain ⟨p, tv, hp, rfl⟩ := hvs.get hv
    have hpm := List.mem_of_getElem? hp
    obtain ⟨a, b, rfl⟩ := nbrs_two hpm
    have hmT : (L' + 1, oT) ∈ ((D, W.listOf ys.toArray ep5) :: (L', oL) :: (own5 ++ (U ++ ((l, W.listOf vs.toArray ep4) :: (L' + 1, oT) :: news)))) := by simp
    replace N5 : News g C h5 ((D, W.listOf ys.toArray ep5) :: (L', oL) :: (own5 ++ (U ++ ((l, W.listOf vs.toArray ep4) :: (L' + 1, oT) :: news)))) := N5
    generalize hLD : ((D, W.listOf ys.toArray ep5) :: (L', oL) :: (own5 ++ (U ++ ((l, W.listOf vs.toArray ep4) :: (L' + 1, oT) :: news)))) = LD at N5 hmT
    have ht0 := ofL_len text
    have ht1 := ofL_len [a, b]
    simp only [List.length_cons, List.length_nil] at ht1
    walk_at "ST"
    rename Fr _ _ _ _ => F6
    rename News _ _ _ _ => N6
    refine split_M F6 N6 (by omega) (by omega) ?_
    intro D6 vs6 h7 tk7 hv6 F7 N7 l7
    clear F6 N6
    have ca := c256 a (nbrs_chars hpm (by simp))
    have cb := c256 b (nbrs_chars hpm (by simp))
    have hcn := cnt_le a b text
    walk_at "ST"
    refine len_S N7 hv6 (by rw [split_len c256 ca cb]; omega) ?_
    rw [split_len c256 ca cb]
    have e9 : (1 - ((cnt a b text + 1 : Nat) : Int)) = -(cnt a b text : Int) := by omega
    walk_at "ST"
    rename_i D' h8 F8 N8 l8
    rw [e9] at N8
    obtain ⟨t9, N9⟩ : ∃ t9, News g C h8 ((D', tO (.int (-(cnt a b text : Int)) t9) (.str (ofL [a, b]) tv) 0) :: (D6, W.listOf vs6.toArray 0) :: LD) := ⟨_, N8⟩
    clear N8
    replace l8 : ∀ p ∈ (D6, W.listOf vs6.toArray 0) :: LD, p.1 < D' := allLt_mem (l := (D6, W.listOf vs6.toArray 0) :: LD) l8
    subst hLD
    refine ⟨h8, _, mc, (D', tO (.int (-(cnt a b text : Int)) t9) (.str (ofL [a, b]) tv) 0) :: (U ++ ((l, W.listOf vs.toArray ep4) :: (L' + 1, oT) :: news)), rfl, F8, KStt.news_of N9 ?_, ?_, (D', tO (.int (-(cnt a b text : Int)) t9) (.str (ofL [a, b]) tv) 0) :: U, rfl, ?_, ?_⟩
    · intro p hp
      simp only [List.mem_cons, List.mem_append] at hp ⊢
      rcases hp with hp | hp | hp | hp | hp
      · exact .inr (.inr (.inl hp))
      · exact .inr (.inr (.inr (.inl hp)))
      · exact .inr (.inr (.inr (.inr (.inl hp))))
      · exact .inl hp
      · exact .inr (.inr (.inr (.inr (.inr hp))))
    · intro p hp
      rcases List.mem_cons.mp hp with rfl | hp
      · exact ⟨Ne.symm (Nat.ne_of_lt (l8 _ (.tail _ (.head _)))), Ne.symm (Nat.ne_of_lt (l8 _ (.tail _ (.tail _ (.head _))))), Ne.symm (Nat.ne_of_lt (l8 _ (.tail _ (.tail _ (.tail _ (List.mem_append_left _ hoI'))))))⟩
      · exact hnx p hp
    · rw [takeSucc (x := (-(cnt a b text : Int), [a, b])) (by rw [← hds1, List.getElem?_map, hp]; rfl)]
      exact ITs.snoc (d := (-(cnt a b text : Int), [a, b])) ⟨D', t9, tv, 0, rfl, .head _⟩ (hU.mono fun p hp => .tail _ hp)
    · intro p hp
      rcases List.mem_cons.mp hp with rfl | hp
      · exact l8 _ (.tail _ (.tail _ (.tail _ (List.mem_append_right _ (List.mem_append_right _ (.head _))))))
      · exact hUl p hp
  · rintro D C ys nx ep6 h6 tk6 mc ⟨U, rfl, hU, hUl⟩ hne6 hDL hDC hCL hC0 hlD F6 N6 hNs
    clear F4 N4
    refine post_some (y := Str.ofString "heap") rfl rfl F6 N6 hNs hCL hC0 ?_ ?_
    · intro p hp
      rcases List.mem_cons.mp hp with rfl | hp
      · exact hDC
      · exact (hne6 p hp).2
    intro h7 tk7 F7 N7
    clear F6 N6 hNs
    rw [← hcl, List.take_length] at hU
    replace N7 : News g L' h7 ((L' + 1, oT) :: (D, W.listOf ys.toArray ep6) :: (U ++ news)) := KStt.news_of N7 fun p hp => by
      simp only [List.mem_cons, List.mem_append] at hp ⊢
      rcases hp with h | h | h | h
      · exact .inr (.inr (.inr (.inl h)))
      · exact .inl h
      · exact .inr (.inl h)
      · exact .inr (.inr (.inr (.inr h)))
    replace F7 : Fr g L' h7 _ := F7
    have q3 := l4 _ (.head _)
    have hUT : ∀ p ∈ U ++ news, p.1 ≠ L' + 1 := by
      intro p hp
      rcases List.mem_append.mp hp with hp | hp
      · exact Ne.symm (Nat.ne_of_lt (Nat.lt_trans q3 (hUl p hp)))
      · exact nT0 p hp
    have hRU : Sub U (U ++ news) := fun p hp => List.mem_append_left _ hp
    have hRn : Sub news (U ++ news) := fun p hp => List.mem_append_right _ hp
    have hUD : ∀ p ∈ U ++ news, p.1 ≠ D := by
      intro p hp
      rcases List.mem_append.mp hp with hp | hp
      · exact (hne6 p (List.mem_append_left _ hp)).1
      · exact (hne6 p (List.mem_append_right _ (.tail _ (.tail _ hp)))).1
    have hDT : D ≠ L' + 1 := Ne.symm (Nat.ne_of_lt (hlD _ (.tail _ (.head _))))
    generalize U ++ news = R at N7 hUT hRU hRn hUD
    have hyl := hU.len
    walk_at "ST"
    refine Assign_comp (cl := []) rfl rfl rfl (by decide) ?_
    walk_at "ST"
    rename Fr _ _ _ _ => F8
    rename News _ _ _ _ => N8
    refine comp_listM (fun k zs nx => nx = ((L' + 1, oT) :: (D, W.listOf ys.toArray ep6) :: R) ∧ ITs U zs ((ds1.take k).filter fun d => decide (d.1 < -1))) (fun k v mc => mc (Str.ofString "item") = some v)
      rfl (by decide) rfl (News.isList N8 (.tail _ (.head _))) hDL (by omega) F8 N8 ⟨rfl, trivial⟩ ?_ ?_ ?_
    · intro C I i v h tk mc nx ys nj hv hJ hsub hit F N
      exact go_name (l := l) (i := 0) rfl rfl F N (fun mc' h => h)
    · rintro C D2 I' k v zs nx ep5 oL h5 tk5 mc own5 hv ⟨rfl, hZ⟩ hB hzl hown5 ⟨oI', hoI'⟩ hnx F5 N5
      clear F8 N8
      refine wpAny_tests_one ?_
      obtain ⟨v', hv', hIT⟩ := hU.get (i := k) (by
        have := List.getElem?_eq_some_iff.mp hv
        obtain ⟨hh, _⟩ := this
        omega)
      rw [hv] at hv'
      cases hv'
      obtain ⟨ia, j1, j2, jn, rfl, him⟩ := hIT
      generalize hdk : ds1.getD k dd = dk at him
      have hk0 : k < ds1.length := by
        obtain ⟨hh, _⟩ := List.getElem?_eq_some_iff.mp hv
        omega
      have hk1 : ds1[k]? = some dk := by
        rw [← hdk, List.getD_eq_getElem?_getD, List.getElem?_eq_getElem hk0]; rfl
      replace N5 : News g C h5 ((D2, W.listOf zs.toArray ep5) :: (L', oL) :: (own5 ++ ((L' + 1, oT) :: (D, W.listOf ys.toArray ep6) :: R))) := N5
      have him2 : (ia, tO (.int dk.1 j1) (.str (ofL dk.2) j2) jn) ∈ ((D2, W.listOf zs.toArray ep5) :: (L', oL) :: (own5 ++ ((L' + 1, oT) :: (D, W.listOf ys.toArray ep6) :: R))) :=
        .tail _ (.tail _ (List.mem_append_right _ (.tail _ (.tail _ (hRU _ him)))))
      walk_at "ST"
      rename Fr _ _ _ _ => F9
      rename News _ _ _ _ => N9
      refine tupI0 N9 him2 ?_ (by with_unfolding_all rfl) (by intro _; with_unfolding_all rfl)
      walk_at "ST"
      · rename dk.1 < -1 => hlt
        rename Fr _ _ _ _ => F10
        rename News _ _ _ _ => N10
        refine ⟨_, _, mc, _, rfl, F10, N10, hnx, rfl, ?_⟩
        rw [takeSucc hk1, List.filter_append, List.filter_cons_of_pos (by simpa using hlt), List.filter_nil]
        exact ITs.snoc ⟨ia, j1, j2, jn, rfl, him⟩ hZ
      · rename ¬ (dk.1 < -1) => hlt
        rename Fr _ _ _ _ => F10
        rename News _ _ _ _ => N10
        refine ⟨_, _, mc, _, rfl, F10, N10, hnx, rfl, ?_⟩
        rw [takeSucc hk1, List.filter_append, List.filter_cons_of_neg (by simpa using hlt), List.filter_nil, List.append_nil]
        exact hZ
    · rintro D2 C zs nx ep7 h9 tk9 mc ⟨rfl, hZ⟩ hne9 hD2L hD2C hCL hC0 hlD2 F9 N9 hNs
      clear F8 N8
      refine post_some (y := Str.ofString "heap") rfl rfl F9 N9 hNs hCL hC0 ?_ ?_
      · intro p hp
        rcases List.mem_cons.mp hp with rfl | hp
        · exact hD2C
        · exact (hne9 p hp).2
      intro h10 tk10 F10 N10
      clear F9 N9 hNs
      rw [hyl, List.take_length] at hZ
      replace F10 : Fr g L' h10 _ := F10
      replace N10 : News g L' h10 ((D2, W.listOf zs.toArray ep7) :: (L' + 1, oT) :: (D, W.listOf ys.toArray ep6) :: R) := N10
      have hpi := pi_init (sg := 0) hch hlen
      rw [hds1] at hpi
      have hfl := List.length_filter_le (fun d : DT => decide (d.1 < -1)) ds1
      generalize ds1.filter (fun d => decide (d.1 < -1)) = ds2 at hZ hpi hfl
      have hoffD : OwnOff ((L' + 1, oT) :: (D, W.listOf ys.toArray ep6) :: R) [D2] := fun p hp b hb => by rw [List.mem_singleton.mp hb]; exact (hne9 p hp).1
      walk_at "ST"
      rename Fr _ _ _ _ => F11
      rename News _ _ _ _ => N11
      refine heapify_spec C' F11 N11 hoffD (T₀ := U) (fun p hp => .tail _ (.tail _ (hRU p hp))) hZ (ALe.lvDeeper.mono (by decide)) (by omega) ?_
      intro h12 tk12 zs' F12 N12 hv12
      (try clear F10); (try clear N10)
      (try clear F11); (try clear N11)
      walk_at "ST"
      rename_i lF h13 l13 h14 F14 N14
      have nTD2 := (hne9 _ (.head _)).1
      replace N14 : News g L' h14 ((D2, W.listOf zs'.toArray ep7) :: (lF, W.listOf ([] : List Value).toArray 0) :: (L' + 1, oT) :: (D, W.listOf ys.toArray ep6) :: R) := KStt.news_of N14 fun p hp => by
        simp only [List.mem_cons] at hp ⊢
        rcases hp with h | h | h | h | h
        · exact .inr (.inl h)
        · exact .inl h
        · exact .inr (.inr (.inl h))
        · exact .inr (.inr (.inr (.inl h)))
        · exact .inr (.inr (.inr (.inr h)))
      refine While_inv2 (n₀ := mz text (hfy ds2) []) (fun n m₁ nx => ∃ t ds fd hs fs e1 e2 oT tt T, nx = (D2, W.listOf hs.toArray e1) :: (lF, W.listOf fs.toArray e2) :: (L' + 1, oT) :: T ∧ Sub news T ∧ ITs T hs ds ∧ PTs T fs fd ∧ oT.data = .cell (some (.str (ofL t) tt)) ∧ PI text t ds fd 0 [] ∧
        (∀ p ∈ T, p.1 ≠ D2 ∧ p.1 ≠ lF ∧ p.1 ≠ L' + 1) ∧ Knows m₁ [(Str.ofString "heap", .ref D2), (Str.ofString "found", .ref lF)] ∧ n = mz t ds []) F14 N14 ?_ ?_
      · refine ⟨text, hfy ds2, [], zs', [], ep7, 0, oT, t1, (D, W.listOf ys.toArray ep6) :: R, rfl, hRn.cons, hv12.mono hRU.cons, trivial, hd2, hpi, ?_, ⟨rfl, rfl, trivial⟩, rfl⟩
        intro p hp
        rcases List.mem_cons.mp hp with rfl | hp
        · exact ⟨(hne9 _ (.tail _ (.head _))).1, Nat.ne_of_lt l13.2.2.1, hDT⟩
        · exact ⟨(hne9 _ (.tail _ (.tail _ hp))).1, Nat.ne_of_lt (allLt_mem l13.2.2.2 p hp), hUT p hp⟩
      have nDF : D2 ≠ lF := Nat.ne_of_lt l13.1
      have nTF : L' + 1 ≠ lF := Nat.ne_of_lt l13.2.1
      clear F14 N14 hd2 hpi hv12 hZ hU hUl hUT hRU hRn hUD hne6 hne9 hlD hlD2 l13 hoffD
      rintro n m₁ nx h₁ tk₁ F1 N1 ⟨t, ds, fd, hs, fs, e1, e2, oT, tt, T, rfl, hsn, hI, hP, hT, hpi, hoff, hkn, rfl⟩
      replace F1 := frKnows F1 hkn
      dsimp only [bl] at F1
      clear hkn
      have hsz := hpi.size
      have hmany := hpi.many
      have hd256 : ∀ d ∈ ds, ∀ c ∈ d.2, c < 256 := by
        intro d hd c hc
        obtain ⟨a, b, e, _, _, _, o1, o2⟩ := hpi.ent d hd
        rw [e] at hc
        rcases List.mem_cons.mp hc with rfl | hc
        · exact o1.lt (by omega)
        · rw [List.mem_singleton.mp hc]; exact o2.lt (by omega)
      have t256 : ∀ c ∈ t, c < 256 := fun c hc => (hpi.chars c hc).lt (by omega)
      walk_at "ST"
      rename_i l' h2 F2 N2 l2
      refine ne_nil (T₀ := T) N2 (.tail _ (.head _)) (.head _) (fun p hp => .tail _ (.tail _ (.tail _ (.tail _ hp)))) hI hd256 (by k_units) ?_
      walk_at "ST"
      · cases hds : ds with
        | nil => rename 0 < ds.length => hpos; rw [hds] at hpos; exact absurd hpos (by decide)
        | cons d0 r =>
        subst hds
        obtain ⟨a, b, hab, hle, hlt, hge, oa, ob⟩ := hpi.ent d0 (.head _)
        obtain ⟨dn, dp⟩ := d0
        dsimp only at hab hle hlt hge
        subst hab
        have N3 : News g L' h2 ((D2, W.listOf hs.toArray e1) :: (lF, W.listOf fs.toArray e2) :: (L' + 1, oT) :: T) := KStt.news_of N2 fun p hp => .tail _ hp
        clear N2
        refine item_M N3 (T₀ := T) hI (by decide) (by simp) (by decide) ?_
        intro xa u1 u2 xc hxm
        replace hxm : (xa, tO (.int dn u1) (.str (ofL [a, b]) u2) xc) ∈ T := hxm
        walk_at "ST"
        rename Fr _ _ _ _ => F4
        rename News _ _ _ _ => N4
        refine unpack2 rfl rfl rfl rfl F4 N4 (.tail _ (.tail _ (.tail _ hxm))) ?_
        intro h5 tk5 F5 N5
        replace F5 : Fr g L' h5 _ := F5
        replace N5 : News g L' h5 _ := N5
        (try clear F4); (try clear N4); (try clear F2); (try clear N3); (try clear F1); (try clear N1)
        have ht0 := ofL_len t
        have ht1 := ofL_len [a, b]
        simp only [List.length_cons, List.length_nil] at ht1
        walk_at "ST"
        rename Fr _ _ _ _ => F6
        rename News _ _ _ _ => N6
        refine split_M F6 N6 (by omega) (by omega) ?_
        intro D6 vs6 h7 tk7 hv6 F7 N7 l7
        (try clear F6); (try clear N6); (try clear F5); (try clear N5)
        have ca : a < 256 := oa.lt (by omega)
        have cb : b < 256 := ob.lt (by omega)
        have hcn := cnt_le a b t
        walk_at "ST"
        refine len_S N7 hv6 (by rw [split_len t256 ca cb]; omega) ?_
        rw [split_len t256 ca cb]
        have e9 : (1 - ((cnt a b t + 1 : Nat) : Int)) = -(cnt a b t : Int) := by omega
        iterate 3 (first | (k_unfold; (try dsimp only)) | walk1 | (dsimp only; walk1))
        rename Fr _ _ _ _ => F8
        rename News _ _ _ _ => N8
        rw [e9] at F8
        have N9 := KStt.news_of N8 (b := (D2, W.listOf hs.toArray e1) :: (lF, W.listOf fs.toArray e2) :: (L' + 1, oT) :: T) fun p hp => .tail _ hp
        clear N8
        have hoffD0 : OwnOff ((lF, W.listOf fs.toArray e2) :: (L' + 1, oT) :: T) [D2] := fun p hp b hb => by
          rw [List.mem_singleton.mp hb]
          rcases List.mem_cons.mp hp with rfl | hp
          · exact Ne.symm nDF
          rcases List.mem_cons.mp hp with rfl | hp
          · exact nTD2
          · exact (hoff p hp).1
        have hsub0 : Sub T ((lF, W.listOf fs.toArray e2) :: (L' + 1, oT) :: T) := fun p hp => .tail _ (.tail _ hp)
        walk_at "ST"
        · rename -(cnt a b t : Int) ≠ dn => hnt
          rename -(cnt a b t : Int) < -1 => hlt2
          rename_i D' h9 F9 N9 l9
          obtain ⟨t9, N10⟩ : ∃ t9, News g L' h9 ((D', tO (.int (-(cnt a b t : Int)) t9) (.str (ofL [a, b]) u2) 0) :: (D2, W.listOf hs.toArray e1) :: (lF, W.listOf fs.toArray e2) :: (L' + 1, oT) :: T) := ⟨_, N9⟩
          clear N9
          have N11 := KStt.news_of N10 (b := (D2, W.listOf hs.toArray e1) :: (D', tO (.int (-(cnt a b t : Int)) t9) (.str (ofL [a, b]) u2) 0) :: (lF, W.listOf fs.toArray e2) :: (L' + 1, oT) :: T) (by
            intro p hp
            simp only [List.mem_cons] at hp ⊢
            rcases hp with h | h | h | h | h
            · exact .inr (.inl h)
            · exact .inl h
            · exact .inr (.inr (.inl h))
            · exact .inr (.inr (.inr (.inl h)))
            · exact .inr (.inr (.inr (.inr h))))
          clear N10
          have hoffD : OwnOff ((D', tO (.int (-(cnt a b t : Int)) t9) (.str (ofL [a, b]) u2) 0) :: (lF, W.listOf fs.toArray e2) :: (L' + 1, oT) :: T) [D2] := fun p hp b hb => by
            rw [List.mem_singleton.mp hb]
            rcases List.mem_cons.mp hp with rfl | hp
            · exact Ne.symm (Nat.ne_of_lt l9.1)
            rcases List.mem_cons.mp hp with rfl | hp
            · exact Ne.symm nDF
            rcases List.mem_cons.mp hp with rfl | hp
            · exact nTD2
            · exact (hoff p hp).1
          refine heapreplace_spec C' F9 N11 hoffD (T₀ := (D', tO (.int (-(cnt a b t : Int)) t9) (.str (ofL [a, b]) u2) 0) :: T) ?_ (hI.mono fun p hp => .tail _ hp) (ALe.lvDeeper.mono (by decide)) (d := (-(cnt a b t : Int), [a, b])) (.head _) (by simp only [List.length_nil] at hmany; omega) (by simp) ?_
          · intro p hp
            rcases List.mem_cons.mp hp with rfl | hp
            · exact .head _
            · exact .tail _ (.tail _ (.tail _ hp))
          intro h12 tk12 hs' ga g1 g2 gc F12 N12 hgm hv12
          replace hgm : (ga, tO (.int dn g1) (.str (ofL [a, b]) g2) gc) ∈ (D', tO (.int (-(cnt a b t : Int)) t9) (.str (ofL [a, b]) u2) 0) :: T := hgm
          (try clear F9); (try clear N11)
          walk_at "ST"
          rename_i D3 h13 F13 N13 l13
          obtain ⟨t10, t11, N14⟩ : ∃ t10 t11, News g L' h13 ((D3, tO (.int dn t10) (.str (ofL [a, b]) t11) 0) :: (D2, W.listOf hs'.toArray e1) :: (D', tO (.int (-(cnt a b t : Int)) t9) (.str (ofL [a, b]) u2) 0) :: (lF, W.listOf fs.toArray e2) :: (L' + 1, oT) :: T) := ⟨_, _, N13⟩
          clear N13
          refine ne_same (d := (dn, [a, b])) N14 ⟨ga, g1, g2, gc, rfl, ?_⟩ ⟨D3, t10, t11, 0, rfl, .head _⟩ (by simp [ca, cb]) (by k_units) ?_
          · rcases List.mem_cons.mp hgm with e | hp
            · rw [e]; exact .tail _ (.tail _ (.head _))
            · exact .tail _ (.tail _ (.tail _ (.tail _ (.tail _ hp))))
          obtain ⟨hpi2, hmz⟩ := pi_stale hpi rfl hlt2 hnt
          walk_at "ST"
          · exact absurd (by assumption) hnt
          refine ⟨_, _, _, (D2, W.listOf hs'.toArray e1) :: (lF, W.listOf fs.toArray e2) :: (L' + 1, oT) :: (D', tO (.int (-(cnt a b t : Int)) t9) (.str (ofL [a, b]) u2) 0) :: T, _, rfl, F13, KStt.news_of N14 ?_, hmz, ⟨t, _, fd, hs', fs, e1, e2, oT, tt, (D', tO (.int (-(cnt a b t : Int)) t9) (.str (ofL [a, b]) u2) 0) :: T, rfl, hsn.cons, hv12, hP.mono fun p hp => .tail _ hp, hT, hpi2, ?_, ⟨rfl, rfl, trivial⟩, rfl⟩⟩
          · intro p hp
            simp only [List.mem_cons] at hp ⊢
            rcases hp with h | h | h | h | h
            · exact .inr (.inl h)
            · exact .inr (.inr (.inr (.inl h)))
            · exact .inr (.inr (.inr (.inr (.inl h))))
            · exact .inr (.inr (.inl h))
            · exact .inr (.inr (.inr (.inr (.inr h))))
          · intro p hp
            rcases List.mem_cons.mp hp with rfl | hp
            · exact ⟨Ne.symm (Nat.ne_of_lt l9.1), Ne.symm (Nat.ne_of_lt l9.2.1), Ne.symm (Nat.ne_of_lt l9.2.2.1)⟩
            · exact hoff p hp
        · rename -(cnt a b t : Int) = dn => hnt
          rename -(cnt a b t : Int) < -1 => hlt2
          refine heappop_spec C' F8 N9 hoffD0 (T₀ := T) hsub0 hI (ALe.lvDeeper.mono (by decide)) (by simp only [List.length_nil] at hmany; omega) (by simp) ?_
          intro h12 tk12 hs' e3 ga g1 g2 gc F12 N12 hgm hv12
          replace hgm : (ga, tO (.int dn g1) (.str (ofL [a, b]) g2) gc) ∈ T := hgm
          (try clear F8); (try clear N9)
          walk_at "ST"
          rename_i D3 h13 F13 N13 l13
          obtain ⟨t10, t11, N14⟩ : ∃ t10 t11, News g L' h13 ((D3, tO (.int dn t10) (.str (ofL [a, b]) t11) 0) :: (D2, W.listOf hs'.toArray e3) :: (lF, W.listOf fs.toArray e2) :: (L' + 1, oT) :: T) := ⟨_, _, N13⟩
          clear N13
          refine ne_same (d := (dn, [a, b])) N14 ⟨ga, g1, g2, gc, rfl, .tail _ (.tail _ (.tail _ (.tail _ hgm)))⟩ ⟨D3, t10, t11, 0, rfl, .head _⟩ (by simp [ca, cb]) (by k_units) ?_
          obtain ⟨hk7, hpi2, hmz⟩ := pi_take hpi rfl hnt
          have hfsl := hP.len
          have N15 := KStt.news_of N14 (b := (D2, W.listOf hs'.toArray e3) :: (lF, W.listOf fs.toArray e2) :: (L' + 1, oT) :: T) fun p hp => .tail _ hp
          clear N14
          have hrok : ROk (ofL t) [ofL [a, b], ofL [65 + fd.length]] := rok_cons (by simp) t256 (by simp [ca, cb]) (by omega) (by simp) (by simp) .nil
          have hrep : replS (ofL t) [ofL [a, b], ofL [65 + fd.length]] = ofL (put a b (65 + fd.length) t) := join_put t256 ca cb
          walk_at "ST"
          rotate_left
          · exact absurd hnt (by assumption)
          first | (k_unfold; (try dsimp only)) | walk1 | (dsimp only; walk1)
          walk_at "ST"
          refine len_list (News.isList N15 (.tail _ (.head _))) (by rw [List.size_toArray]; omega) ?_
          rw [List.size_toArray, hfsl]
          walk_at "ST"
          refine sign_M (by omega) ?_
          walk_at "ST"
          rename Fr _ _ _ _ => F16
          rename News _ _ _ _ => N16
          refine replace_spec C' F16 N16 (ALe.lvDeeper.mono (by decide)) (ps := [ofL [a, b], ofL [65 + fd.length]]) (.cons _ _ (.cons _ _ .nil)) hrok (by simp) ?_
          intro h17 tk17 t17 F17 N17
          rw [hrep]
          walk_at "ST"
          refine storeC (c := L' + 1) F17 N17 rfl (.tail _ (.tail _ (.head _))) hT rfl rfl ?_
          intro h18 oT' F18 N18f hT'
          have N18 := N18f ((D2, W.listOf hs'.toArray e3) :: (lF, W.listOf fs.toArray e2) :: (L' + 1, oT') :: T) (by
            intro p hp
            simp only [List.mem_cons] at hp ⊢
            rcases hp with rfl | rfl | rfl | hp
            · exact .inr ⟨.inl rfl, Ne.symm nTD2⟩
            · exact .inr ⟨.inr (.inl rfl), Ne.symm nTF⟩
            · exact .inl rfl
            · exact .inr ⟨.inr (.inr (.inr hp)), (hoff p hp).2.2⟩)
          clear N18f
          (try clear F13); (try clear N15); (try clear F16); (try clear N16); (try clear F17); (try clear N17)
          replace F18 : Fr g L' h18 _ := F18
          replace N18 : News g L' h18 _ := N18
          have hoffF : OwnOff T [lF] := fun p hp b hb => by rw [List.mem_singleton.mp hb]; exact (hoff p hp).2.1
          walk_at "ST"
          rename_i D7 h19 l19 h20 F20 N20
          simp only [List.push_toArray] at N20
          obtain ⟨e4, t12, t13, N21⟩ : ∃ e4 t12 t13, News g L' h20 ((D7, tO (.str (ofL [a, b]) t12) (.str (ofL [65 + fd.length]) t13) 0) :: (D2, W.listOf hs'.toArray e3) :: (lF, W.listOf (fs ++ [Value.ref D7]).toArray e4) :: (L' + 1, oT') :: T) := ⟨_, _, _, N20⟩
          clear N20
          have hsn2 : Sub news ((D7, tO (.str (ofL [a, b]) t12) (.str (ofL [65 + fd.length]) t13) 0) :: T) := hsn.cons
          have hP2 : PTs ((D7, tO (.str (ofL [a, b]) t12) (.str (ofL [65 + fd.length]) t13) 0) :: T) (fs ++ [Value.ref D7]) (fd ++ [([a, b], [65 + fd.length])]) := PTs.snoc (d := ([a, b], [65 + fd.length])) ⟨D7, t12, t13, 0, rfl, .head _⟩ (hP.mono fun p hp => .tail _ hp)
          have hv13 : ITs ((D7, tO (.str (ofL [a, b]) t12) (.str (ofL [65 + fd.length]) t13) 0) :: T) hs' (hpop ((dn, [a, b]) :: r)) := hv12.mono fun p hp => .tail _ hp
          have hoff2 : ∀ p ∈ ((D7, tO (.str (ofL [a, b]) t12) (.str (ofL [65 + fd.length]) t13) 0) :: T), p.1 ≠ D2 ∧ p.1 ≠ lF ∧ p.1 ≠ L' + 1 := by
            intro p hp
            rcases List.mem_cons.mp hp with rfl | hp
            · exact ⟨Ne.symm (Nat.ne_of_lt l19.1), Ne.symm (Nat.ne_of_lt l19.2.1), Ne.symm (Nat.ne_of_lt l19.2.2.1)⟩
            · exact hoff p hp
          have N22 := KStt.news_of N21 (b := (D2, W.listOf hs'.toArray e3) :: (lF, W.listOf (fs ++ [Value.ref D7]).toArray e4) :: (L' + 1, oT') :: ((D7, tO (.str (ofL [a, b]) t12) (.str (ofL [65 + fd.length]) t13) 0) :: T)) (by
            intro p hp
            simp only [List.mem_cons] at hp ⊢
            rcases hp with h | h | h | h | h
            · exact .inr (.inl h)
            · exact .inr (.inr (.inl h))
            · exact .inr (.inr (.inr (.inl h)))
            · exact .inl h
            · exact .inr (.inr (.inr (.inr h))))
          clear N21
          generalize ((D7, tO (.str (ofL [a, b]) t12) (.str (ofL [65 + fd.length]) t13) 0) :: T) = T2 at N22 hsn2 hP2 hv13 hoff2
          generalize hpop ((dn, [a, b]) :: r) = ds3 at hpi2 hmz hv13
          generalize fs ++ [Value.ref D7] = fs2 at N22 hP2
          generalize put a b (65 + fd.length) t = t2 at hpi2 hmz hT'
          have hfd2 : (fd ++ [([a, b], [65 + fd.length])]).length ≤ 8 := by rw [List.length_append, List.length_singleton]; omega
          generalize fd ++ [([a, b], [65 + fd.length])] = fd2 at hpi2 hP2 hfd2
          generalize mz t ((dn, [a, b]) :: r) [] = M at hmz ⊢
          clear hv12 hgm hoff hP hI hsn hoffF hoffD0 hsub0 hT hpi hrok hrep hxm l19 hd256 hmany
          have hsz2 := hpi2.size
          have t256b : ∀ c ∈ t2, c < 256 := fun c hc => (hpi2.chars c hc).lt (by omega)
          refine wpAny_For ?_ (by intro _; rfl)
          walk_at "ST"
          refine nbrs_spec C' F20 N22 (ALe.lvDeeper.mono (by decide)) (by omega) ?_
          intro h23 tk23 ln vs2 ep23 F23 N23 l23 hvs2
          (try clear F20); (try clear N22)
          have hvl3 := hvs2.len
          have N24 := KStt.news_of N23 (b := (D2, W.listOf hs'.toArray e3) :: (lF, W.listOf fs2.toArray e4) :: (L' + 1, oT') :: ((ln, W.listOf vs2.toArray ep23) :: T2)) (by
            intro p hp
            simp only [List.mem_cons] at hp ⊢
            rcases hp with h | h | h | h | h
            · exact .inr (.inl h)
            · exact .inr (.inr (.inl h))
            · exact .inr (.inr (.inr (.inl h)))
            · exact .inl h
            · exact .inr (.inr (.inr (.inr h))))
          refine iter_listW (fun k m₁ nx => ∃ ds hs e1 T, nx = (D2, W.listOf hs.toArray e1) :: (lF, W.listOf fs2.toArray e4) :: (L' + 1, oT') :: T ∧ Sub T2 T ∧ ITs T hs ds ∧ PI text t2 ds fd2 (65 + fd.length) ((nbrs t2).drop k) ∧ mz t2 ds ((nbrs t2).drop k) < M ∧
              (∀ p ∈ T, p.1 ≠ D2 ∧ p.1 ≠ lF ∧ p.1 ≠ L' + 1) ∧ ∃ t14, Knows m₁ [(Str.ofString "heap", .ref D2), (Str.ofString "found", .ref lF), (Str.ofString "sign", .str (ofL [65 + fd.length]) t14)])
            (fun k v m₁ nx => ∃ ds hs e1 T, nx = (D2, W.listOf hs.toArray e1) :: (lF, W.listOf fs2.toArray e4) :: (L' + 1, oT') :: T ∧ Sub T2 T ∧ ITs T hs ds ∧ PI text t2 ds fd2 (65 + fd.length) ((nbrs t2).drop k) ∧ mz t2 ds ((nbrs t2).drop k) < M ∧
              (∀ p ∈ T, p.1 ≠ D2 ∧ p.1 ≠ lF ∧ p.1 ≠ L' + 1) ∧ ∃ t14, Knows m₁ [(Str.ofString "new", v), (Str.ofString "heap", .ref D2), (Str.ofString "found", .ref lF), (Str.ofString "sign", .str (ofL [65 + fd.length]) t14)])
            rfl (News.isList N23 (.head _)) (N23 _ (.head _)).2.1 F23 N24 ?_ (by passes_own) ?_ ?_ ?_
          · refine ⟨ds3, hs', e3, _, rfl, Sub.rfl.cons, hv13.mono fun p hp => .tail _ hp, hpi2, hmz, ?_, _, ⟨rfl, rfl, rfl, trivial⟩⟩
            intro p hp
            rcases List.mem_cons.mp hp with rfl | hp
            · exact ⟨Ne.symm (Nat.ne_of_lt (l23 _ (.head _))), Ne.symm (Nat.ne_of_lt (l23 _ (.tail _ (.head _)))), Ne.symm (Nat.ne_of_lt (l23 _ (.tail _ (.tail _ (.head _)))))⟩
            · exact hoff2 p hp
          · rintro I k v m₁ nx h tk own hv ⟨ds, hs, e1, T, rfl, hs2, hI, hpi, hmz, hoff, t14, hkn⟩ ho hne F3 N3
            refine wpAny_pure (wpAny_assign_Name (wpAny_storeName_local rfl F3.ns (fun h₂ hn₂ hs₂ => ?_) rfl))
            exact ⟨h₂, _, _, _, rfl, F3.set hn₂ hs₂, N3.set hs₂, hne, ds, hs, e1, T, rfl, hs2, hI, hpi, hmz, hoff, t14, rfl, hkn.1, hkn.2.1, hkn.2.2.1, trivial⟩
          · clear F23 N23 N24 hv13 hpi2 hmz
            rintro I k v m₁ nx h tk own hv ⟨ds, hs, e1, T, rfl, hs2, hI, hpi, hmz, hoff, t14, hkn⟩ ho ⟨oI, hoI⟩ hIl hne F3 N3
            obtain ⟨p, tv, hp, rfl⟩ := hvs2.get hv
            have hpm := List.mem_of_getElem? hp
            obtain ⟨pa, pb, rfl⟩ := nbrs_two hpm
            have hdrop : (nbrs t2).drop k = [pa, pb] :: (nbrs t2).drop (k + 1) := by
              obtain ⟨hk1, hk2⟩ := List.getElem?_eq_some_iff.mp hp
              rw [List.drop_eq_getElem_cons hk1, hk2]
            rw [hdrop] at hpi hmz
            replace F3 := frKnows F3 hkn
            dsimp only [bl] at F3
            replace F3 : Fr g L' h _ := F3
            replace N3 : News g L' h ((D2, W.listOf hs.toArray e1) :: (lF, W.listOf fs2.toArray e4) :: (L' + 1, oT') :: (own ++ T)) := KStt.news_of N3 fun p hp => by
              simp only [List.mem_cons, List.mem_append] at hp ⊢
              rcases hp with h | h | h | h | h
              · exact .inr (.inl h)
              · exact .inr (.inr (.inl h))
              · exact .inr (.inr (.inr (.inl h)))
              · exact .inl h
              · exact .inr (.inr (.inr (.inr h)))
            clear hkn
            walk_at "ST"
            refine in_M ?_
            walk_at "ST"
            · rename 65 + fd.length ∈ [pa, pb] => hin
              have ca2 : pa < 256 := t256b _ (nbrs_chars hpm (by simp))
              have cb2 : pb < 256 := t256b _ (nbrs_chars hpm (by simp))
              have ht3 := ofL_len t2
              have ht4 := ofL_len [pa, pb]
              simp only [List.length_cons, List.length_nil] at ht4
              have hcn2 := cnt_le pa pb t2
              refine split_M F3 N3 (by omega) (by omega) ?_
              intro D8 vs8 h30 tk30 hv8 F30 N30 l30
              (try clear F3); (try clear N3)
              walk_at "ST"
              refine len_S N30 hv8 (by rw [split_len t256b ca2 cb2]; omega) ?_
              rw [split_len t256b ca2 cb2]
              have N31 := KStt.news_of N30 (b := (D2, W.listOf hs.toArray e1) :: (lF, W.listOf fs2.toArray e4) :: (L' + 1, oT') :: (own ++ T)) fun p hp => .tail _ hp
              clear N30
              walk_at "ST"
              · rename 2 < ((cnt pa pb t2 + 1 : Nat) : Int) => hgt
                have hge2 : 2 ≤ cntL [pa, pb] t2 := by show 2 ≤ cnt pa pb t2; omega
                refine split_M F30 N31 (by omega) (by omega) ?_
                intro D9 vs9 h32 tk32 hv9 F32 N32 l32
                (try clear F30); (try clear N31)
                walk_at "ST"
                refine len_S N32 hv9 (by rw [split_len t256b ca2 cb2]; omega) ?_
                rw [split_len t256b ca2 cb2]
                have e10 : (1 - ((cnt pa pb t2 + 1 : Nat) : Int)) = -(cntL [pa, pb] t2 : Int) := by show _ = -(cnt pa pb t2 : Int); omega
                have hoI2 : (I, oI) ∈ own ++ T := List.mem_append_left _ hoI
                have N33 := KStt.news_of N32 (b := (D2, W.listOf hs.toArray e1) :: (lF, W.listOf fs2.toArray e4) :: (L' + 1, oT') :: (own ++ T)) fun p hp => .tail _ hp
                clear N32
                walk_at "ST"
                rename_i D10 h34 F34 N34 l34
                rw [e10] at N34
                obtain ⟨t15, t16, N35⟩ : ∃ t15 t16, News g L' h34 ((D10, tO (.int (-(cntL [pa, pb] t2 : Int)) t15) (.str (ofL [pa, pb]) t16) 0) :: (D2, W.listOf hs.toArray e1) :: (lF, W.listOf fs2.toArray e4) :: (L' + 1, oT') :: (own ++ T)) := ⟨_, _, N34⟩
                clear N34
                have N36 := KStt.news_of N35 (b := (D2, W.listOf hs.toArray e1) :: ((D10, tO (.int (-(cntL [pa, pb] t2 : Int)) t15) (.str (ofL [pa, pb]) t16) 0) :: (lF, W.listOf fs2.toArray e4) :: (L' + 1, oT') :: (own ++ T))) (by
                  intro p hp
                  simp only [List.mem_cons] at hp ⊢
                  rcases hp with h | h | h
                  · exact .inr (.inl h)
                  · exact .inl h
                  · exact .inr (.inr h))
                clear N35
                have hIt : (D2, W.listOf hs.toArray e1) ∈ (D2, W.listOf hs.toArray e1) :: (lF, W.listOf fs2.toArray e4) :: (L' + 1, oT') :: T := .head _
                have hD2I : D2 ≠ I := hne _ hIt
                have hD2n : D2 < ln := l23 _ (.head _)
                have hoffP : OwnOff ((D10, tO (.int (-(cntL [pa, pb] t2 : Int)) t15) (.str (ofL [pa, pb]) t16) 0) :: (lF, W.listOf fs2.toArray e4) :: (L' + 1, oT') :: (own ++ T)) [D2] := fun p hp b hb => by
                  rw [List.mem_singleton.mp hb]
                  rcases List.mem_cons.mp hp with rfl | hp
                  · exact Ne.symm (Nat.ne_of_lt l34.1)
                  rcases List.mem_cons.mp hp with rfl | hp
                  · exact Ne.symm nDF
                  rcases List.mem_cons.mp hp with rfl | hp
                  · exact nTD2
                  rcases List.mem_append.mp hp with hp | hp
                  · rcases ho p hp with e | e
                    · rw [e]; exact Ne.symm hD2I
                    · rw [e]; exact Ne.symm (Nat.ne_of_lt hD2n)
                  · exact (hoff p hp).1
                have hmany2 := hpi.many
                have hnv : ds.length ≤ 50000 := by omega
                obtain ⟨hpi', hmz'⟩ := pi_push hpi hin hge2
                refine heappush_spec C' F34 N36 hoffP (T₀ := (D10, tO (.int (-(cntL [pa, pb] t2 : Int)) t15) (.str (ofL [pa, pb]) t16) 0) :: T) ?_ (hI.mono fun p hp => .tail _ hp) (ALe.lvDeeper.mono (by decide)) (d := (-(cntL [pa, pb] t2 : Int), [pa, pb])) (.head _) hnv ?_
                · intro p hp
                  rcases List.mem_cons.mp hp with rfl | hp
                  · exact .head _
                  · exact .tail _ (.tail _ (.tail _ (List.mem_append_right _ hp)))
                intro h37 tk37 hs7 e7 F37 N37 hv37
                (try clear F34); (try clear N36)
                walk_at "ST"
                refine ⟨_, _, _, (D2, W.listOf hs7.toArray e7) :: (lF, W.listOf fs2.toArray e4) :: (L' + 1, oT') :: ((D10, tO (.int (-(cntL [pa, pb] t2 : Int)) t15) (.str (ofL [pa, pb]) t16) 0) :: T), rfl, F37, KStt.news_of N37 ?_, ?_, _, hs7, e7, (D10, tO (.int (-(cntL [pa, pb] t2 : Int)) t15) (.str (ofL [pa, pb]) t16) 0) :: T, rfl, hs2.cons, hv37, hpi', Nat.lt_of_le_of_lt hmz' hmz, ?_, t14, rfl, rfl, rfl, trivial⟩
                · intro p hp
                  simp only [List.mem_cons, List.mem_append] at hp ⊢
                  rcases hp with h | h | h | h | h | h
                  · exact .inr (.inr (.inr (.inr (.inl h))))
                  · exact .inl h
                  · exact .inr (.inr (.inl h))
                  · exact .inr (.inr (.inr (.inl h)))
                  · exact .inr (.inl h)
                  · exact .inr (.inr (.inr (.inr (.inr h))))
                · intro p hp
                  rcases List.mem_cons.mp hp with rfl | hp
                  · exact hD2I
                  rcases List.mem_cons.mp hp with rfl | hp
                  · exact hne (lF, W.listOf fs2.toArray e4) (.tail _ (.head _))
                  rcases List.mem_cons.mp hp with rfl | hp
                  · exact hne (L' + 1, oT') (.tail _ (.tail _ (.head _)))
                  rcases List.mem_cons.mp hp with rfl | hp
                  · exact Ne.symm (Nat.ne_of_lt (allLt_mem l34.2.2.2 _ hoI2))
                  · exact hne p (.tail _ (.tail _ (.tail _ hp)))
                · intro p hp
                  rcases List.mem_cons.mp hp with rfl | hp
                  · exact ⟨Ne.symm (Nat.ne_of_lt l34.1), Ne.symm (Nat.ne_of_lt l34.2.1), Ne.symm (Nat.ne_of_lt l34.2.2.1)⟩
                  · exact hoff p hp
              · rename ¬ (2 < ((cnt pa pb t2 + 1 : Nat) : Int)) => hgt
                obtain ⟨hpi', hmz'⟩ := pi_skip hpi (fun q => hgt (by have : 2 ≤ cnt pa pb t2 := q.2; omega))
                exact ⟨_, _, _, (D2, W.listOf hs.toArray e1) :: (lF, W.listOf fs2.toArray e4) :: (L' + 1, oT') :: T, rfl, F30, KStt.news_of N31 fun p hp => mem3 hp, hne, ds, hs, e1, T, rfl, hs2, hI, hpi', Nat.lt_of_le_of_lt hmz' hmz, hoff, t14, rfl, rfl, rfl, trivial⟩
            · rename ¬ (65 + fd.length ∈ [pa, pb]) => hni
              obtain ⟨hpi', hmz'⟩ := pi_skip hpi (fun q => hni q.1)
              exact ⟨_, _, _, (D2, W.listOf hs.toArray e1) :: (lF, W.listOf fs2.toArray e4) :: (L' + 1, oT') :: T, rfl, F3, KStt.news_of N3 fun p hp => mem3 hp, hne, ds, hs, e1, T, rfl, hs2, hI, hpi', Nat.lt_of_le_of_lt hmz' hmz, hoff, t14, rfl, rfl, rfl, trivial⟩
          · clear F23 N23 N24 hv13 hpi2 hmz
            rintro m₁ nx h tk ⟨ds, hs, e1, T, rfl, hs2, hI, hpi, hmz, hoff, t14, hkn⟩ F3 N3
            rw [hvl3, List.drop_length] at hpi hmz
            replace F3 := frKnows F3 hkn
            dsimp only [bl] at F3
            replace F3 : Fr g L' h _ := F3
            replace N3 : News g L' h _ := N3
            walk_at "ST"
            refine ⟨_, _, _, _, _, rfl, F3, N3, hmz, ⟨t2, ds, fd2, hs, fs2, e1, e4, oT', t17, T, rfl, fun p hp => hs2 p (hsn2 p hp), hI, hP2.mono hs2, hT', pi_sg hpi, hoff, ⟨rfl, rfl, trivial⟩, rfl⟩⟩
        · rename ¬ -(cnt a b t : Int) < -1 => hlt2
          refine heappop_spec C' F8 N9 hoffD0 (T₀ := T) hsub0 hI (ALe.lvDeeper.mono (by decide)) (by simp only [List.length_nil] at hmany; omega) (by simp) ?_
          intro h12 tk12 hs' e3 ga g1 g2 gc F12 N12 hgm hv12
          replace hgm : (ga, tO (.int dn g1) (.str (ofL [a, b]) g2) gc) ∈ T := hgm
          (try clear F8); (try clear N9)
          walk_at "ST"
          rename_i D3 h13 F13 N13 l13
          obtain ⟨t10, t11, N14⟩ : ∃ t10 t11, News g L' h13 ((D3, tO (.int dn t10) (.str (ofL [a, b]) t11) 0) :: (D2, W.listOf hs'.toArray e3) :: (lF, W.listOf fs.toArray e2) :: (L' + 1, oT) :: T) := ⟨_, _, N13⟩
          clear N13
          refine ne_same (d := (dn, [a, b])) N14 ⟨ga, g1, g2, gc, rfl, .tail _ (.tail _ (.tail _ (.tail _ hgm)))⟩ ⟨D3, t10, t11, 0, rfl, .head _⟩ (by simp [ca, cb]) (by k_units) ?_
          have hne3 : -(cnt a b t : Int) ≠ dn := by omega
          obtain ⟨hpi2, hmz⟩ := pi_drop hpi rfl hlt2
          walk_at "ST"
          · exact absurd (by assumption) hne3
          refine ⟨_, _, _, (D2, W.listOf hs'.toArray e3) :: (lF, W.listOf fs.toArray e2) :: (L' + 1, oT) :: T, _, rfl, F13, KStt.news_of N14 fun p hp => .tail _ hp, hmz, ⟨t, _, fd, hs', fs, e3, e2, oT, tt, T, rfl, hsn, hv12, hP, hT, hpi2, hoff, ⟨rfl, rfl, trivial⟩, rfl⟩⟩
      · have hnil : ds = [] := by
          cases ds with
          | nil => rfl
          | cons _ _ => rename ¬ (0 < _) => hz; exact absurd (Nat.zero_lt_succ _) hz
        subst hnil
        rw [pi_end hpi] at hQ
        dsimp only at hQ
        rename_i D' h4 F4 N4 l4 _
        obtain ⟨t9, N5⟩ : ∃ t9, News g L' h4 ((D', tO (.str (ofL t) t9) (.ref lF) 0) :: (l', W.listOf ([] : List Value).toArray 0) :: (D2, W.listOf hs.toArray e1) :: (lF, W.listOf fs.toArray e2) :: (L' + 1, oT) :: T) := ⟨_, N4⟩
        dsimp only
        (try k_unfold)
        refine leaveK_ F4 (KStt.news_of N5 (b := (D', tO (.str (ofL t) t9) (.ref lF) 0) :: (lF, W.listOf fs.toArray e2) :: T) ?_) fun kF kN => ?_
        · intro p hp
          simp only [List.mem_cons] at hp ⊢
          rcases hp with hp | hp | hp
          · exact .inl hp
          · exact .inr (.inr (.inr (.inl hp)))
          · exact .inr (.inr (.inr (.inr (.inr hp))))
        · exact hQ _ _ _ _ _ _ _ _ _ kF kN hsn hP (fun p hp => ⟨Nat.ne_of_lt (allLt_mem l4.2.2.2.2 p hp), (hoff p hp).2.1⟩) (Ne.symm (Nat.ne_of_lt l4.2.2.1))
end Mine
end
section
open PySem PySem.W PyProof.Rows PySem.Calls
set_option maxRecDepth 100000
set_option maxHeartbeats 2000000
namespace Mine
local macro_rules | `(tactic| walk_at "ST") => `(tactic| repeat' (
  (fail_if_success (with_reducible show wpAny _ _ (exec (Stmt.While _ _ _ _) _) _ _ _));
  (fail_if_success (with_reducible show wpAny _ _ (exec (Stmt.For _ _ _ _ _) _) _ _ _));
  (fail_if_success (with_reducible show wpAny _ _ (pyIter _) _ _ _));
  (fail_if_success (with_reducible show wpAny _ _ (call (Value.ref _) _ _) _ _ _));
  first | (k_unfold; (try dsimp only)) | walk1 | (dsimp only; walk1)))

theorem flat_spec {prog : Program} {w : World} {A : Around} {E : Value → Shared → Prop} {s : Shared} {h₀ : Heap} {L P : Addr} {m : Str → Option Value} {news T₀ : List (Addr × Obj)} {vs : List Value} {ds : List PD} {n : Nat}
    (C : Cx w h₀) (F : Fr h₀ L s.heap m) (N : News h₀ L s.heap news) (hP : (P, W.listOf vs.toArray n) ∈ news) (hs : Sub T₀ news) (hv : PTs T₀ vs ds) (hA : ALe A 600) (hlen : ds.length ≤ 1000)
    {Q : Value → Shared → Prop} (hQ : ∀ h' tk l vs' ep, Fr h₀ L h' m → News h₀ L h' ((l, W.listOf vs'.toArray ep) :: news) → (∀ p ∈ news, p.1 < l) → TV vs' (flatP ds) → Q (.ref l) {s with heap := h', toks := tk}) :
    wpAny (model prog w) A (call (.ref 94) [.ref P]) Q E s := by
  refine wpAny_lv hA (wpAny_call ?_)
  refine callM C F N (by k_is) (by k_is) (by decide) (BindsTo.of_eq rfl) (locs rfl) ?_
  clear F N C
  intro g L' h' C' F' N' l1
  obtain ⟨X', mg, mb, T'⟩ := id C'
  try dsimp only
  k_fold
  have hvl := hv.len
  walk_at "ST"
  refine wpAny_For ?_ (by intro _; rfl)
  walk_at "ST"
  rename Fr _ _ _ _ => F1
  rename News _ _ _ _ => N1
  rename_i l' _ hlt0 _
  have hne0 : ∀ p ∈ news, p.1 ≠ l' := fun p hp => Nat.ne_of_lt (hlt0 p hp)
  refine iter_pairsM (T₀ := T₀) (fun i m₁ nx => ∃ (us : List Value) (ep : Nat), nx = (l', W.listOf us.toArray ep) :: news ∧ TV us (flatP (ds.take i)) ∧ Knows m₁ [(Str.ofString "flat", .ref l')])
    (fun i u1 u2 => ∃ d t1 t2, ds[i]? = some d ∧ u1 = .str (ofL d.1) t1 ∧ u2 = .str (ofL d.2) t2) rfl (News.isList N1 (.tail _ hP)) ?_ rfl rfl rfl (by passes_own) F1 N1 ⟨[], 0, rfl, .nil, ⟨rfl, trivial⟩⟩ ?_ ?_ ?_ ?_
  · exact (N1 _ (.tail _ hP)).2.1
  · rintro i m nx ⟨us, ep, rfl, _⟩
    exact hs.cons
  · intro i v hi
    obtain ⟨d, hd, a, t1, t2, c, rfl, hm⟩ := hv.get hi
    exact ⟨a, _, _, c, rfl, hm, d, t1, t2, hd, rfl, rfl⟩
  · rintro i u1 u2 m₁ nx h tk own hi ⟨d, t1, t2, hd, rfl, rfl⟩ ⟨us, ep, rfl, hu, hkn⟩ hown hne F2 N2
    clear F1 N1
    replace F2 := frKnows (ps := [(Str.ofString "put", .str (ofL d.2) t2), (Str.ofString "sought", .str (ofL d.1) t1), (Str.ofString "flat", .ref l')]) F2 ⟨rfl, rfl, hkn.1, trivial⟩
    replace F2 : Fr g L' h _ := F2
    dsimp only [bl] at F2
    replace N2 : News g L' h ((l', W.listOf us.toArray ep) :: (own ++ news)) := newsMid N2
    have hoff : OwnOff (own ++ news) [l'] := by
      intro p hp b hb
      rw [List.mem_singleton.mp hb]
      rcases List.mem_append.mp hp with h | h
      · rcases hown p h with e | e
        · rw [e]; exact fun q => hne (l', W.listOf us.toArray ep) (.head _) q.symm
        · rw [e]; exact hne0 (P, W.listOf vs.toArray n) hP
      · exact hne0 p h
    have hul := hu.len
    have hfl := flatP_len (ds.take i)
    rw [List.length_take] at hfl
    walk_at "ST"
    rename News _ _ _ _ => N3
    simp only [List.push_toArray] at N3
    refine ⟨_, _, _, _, rfl, by assumption, newsMid' N3, ?_, _, _, rfl, ?_, ⟨rfl, trivial⟩⟩
    · intro p hp
      rcases List.mem_cons.mp hp with e | hp
      · rw [e]; exact hne (l', W.listOf us.toArray ep) (.head _)
      · exact hne _ (.tail _ hp)
    · rw [flatP_take ds i d hd]
      exact (hu.snoc).snoc
  · rintro m₁ nx h tk ⟨us, ep, rfl, hu, hkn⟩ hne F2 N2
    clear F1 N1
    replace F2 := frKnows F2 hkn
    replace F2 : Fr g L' h _ := F2
    dsimp only [bl] at F2
    replace N2 : News g L' h _ := N2
    walk_at "ST"
    dsimp only
    k_unfold
    refine leaveK_ (by assumption) (by assumption) fun kF kN => ?_
    rw [hvl, List.take_length] at hu
    exact hQ _ _ _ _ _ kF kN hlt0 hu
end Mine
end
section
open PySem PySem.W PyProof.Rows PySem.Calls
open PySem.Builtin.Str PySem.StrLaws
set_option maxRecDepth 100000
set_option maxHeartbeats 2000000
namespace Mine
theorem abc_M {prog : Program} {w : World} {A : Around} {E : Value → Shared → Prop} {s : Shared} {Q : Value → Shared → Prop} {value slice : PySem.Expr} {x : Int} {t u : Tok} (h : Q (.str (ofL [97 + (x % 3).toNat]) s.toks) { s with toks := s.toks + 1 })
    (hs : subscripted slice false (.str (Str.ofString "abc") t) (.int (x.fmod 3) u) = operate [.str (Str.ofString "abc") t, .int (x.fmod 3) u] (getItem (.str (Str.ofString "abc") t) (.int (x.fmod 3) u)) := by with_unfolding_all rfl)
    (ht : ∀ r, letTemporaryGo value (.str (Str.ofString "abc") t) r = pure () := by intro _; with_unfolding_all rfl) :
    wpAny (model prog w) A (subscriptTail value slice (.str (Str.ofString "abc") t) (.int (x.fmod 3) u)) Q E s := by
  have el : Str.ofString "abc" = ofL [97, 98, 99] := by decide +kernel
  have ef : x.fmod 3 = x % 3 := Int.fmod_eq_emod_of_nonneg _ (by decide)
  have m0 := Int.emod_nonneg x (show (3 : Int) ≠ 0 by decide)
  have m1 := Int.emod_lt_of_pos x (show (0 : Int) < 3 by decide)
  refine KXi.item (n := 3) (by rw [el, ofL_len]; rfl) (by omega) (by omega) (by decide) (fun _ => ?_) hs ht
  have e : Txt.item (Str.ofString "abc") (x.fmod 3) = ofL [97 + (x % 3).toNat] := by
    rw [ef]
    generalize x % 3 = k at m0 m1
    rw [el, item_at _ m0 (by simp; omega)]
    obtain ⟨j, rfl⟩ := Int.eq_ofNat_of_zero_le m0
    have hj : j < 3 := by omega
    match j, hj with
    | 0, _ => rfl
    | 1, _ => rfl
    | 2, _ => rfl
  rw [e]; exact h
theorem join_chars : ∀ l : List Nat, Str.join (ofL []) (l.map fun c => ofL [c]) = ofL l
  | [] => rfl
  | [c] => rfl
  | c :: d :: r => by
    have ih := join_chars (d :: r)
    rw [List.map_cons] at ih
    show ofL [c] ++ ofL [] ++ Str.join (ofL []) (ofL [d] :: r.map fun c => ofL [c]) = _
    rw [ih, ofL_app, ofL_app]
    rfl
theorem joinE (l : List Nat) : Txt.join (Str.ofString "") ((l.map fun c => [c]).map ofL) = ofL l := by
  have e : Str.ofString "" = ofL [] := by decide +kernel
  rw [e, List.map_map]
  show glued _ _ = _
  rw [glued_eq_join]
  exact join_chars l
def lawT (ms : List Int) : List Nat := (ms.map fun x => 97 + (x % 3).toNat) ++ [97, 98, 99, 97, 98, 99]
theorem lawT_ok {ms : List Int} : ∀ c ∈ lawT ms, Ok 0 c := by
  intro c hc
  rcases List.mem_append.mp hc with hc | hc
  · obtain ⟨x, _, rfl⟩ := List.mem_map.mp hc
    have m0 := Int.emod_nonneg x (show (3 : Int) ≠ 0 by decide)
    have m1 := Int.emod_lt_of_pos x (show (0 : Int) < 3 by decide)
    unfold Ok; omega
  · simp only [List.mem_cons, List.not_mem_nil, or_false] at hc
    unfold Ok; omega
theorem lawT_len {ms : List Int} (h : ms.length ≤ 12) : (lawT ms).length ≤ 18 := by
  unfold lawT
  simp only [List.length_append, List.length_map, List.length_cons, List.length_nil]
  omega
theorem lawT_is (ms : List Int) : Txt.join (Str.ofString "") ((ms.map fun x => [97 + (x % 3).toNat]).map ofL) ++ Str.ofString "abcabc" = ofL (lawT ms) := by
  have e : Str.ofString "abcabc" = ofL [97, 98, 99, 97, 98, 99] := by decide +kernel
  have e2 : (ms.map fun x => [97 + (x % 3).toNat]) = (ms.map fun x => 97 + (x % 3).toNat).map fun c => [c] := by rw [List.map_map]; rfl
  rw [e2, joinE, e, ofL_app]; rfl
theorem lawT_w (ms : List Int) : ((((ms.map fun x => [97 + (x % 3).toNat]).map ofL).map (·.length)).sum) = ms.length := by
  induction ms with
  | nil => rfl
  | cons x r ih =>
    simp only [List.map_cons, List.sum_cons, List.length_cons] at ih ⊢
    rw [ih, ofL_len]; simp; omega
theorem plain_pairs {t0 : List Nat} (h1 : ∀ c ∈ t0, Ok 0 c) (h2 : t0.length ≤ 18) : ∀ i, i ≤ 10 → ∀ p ∈ (plainTo t0 i).2, (∀ c ∈ p.1, c < 256) ∧ (∀ c ∈ p.2, c < 256)
  | 0, _, _, hp => nomatch hp
  | i + 1, hi, p, hp => by
    have ih := plain_pairs h1 h2 i (by omega)
    have ht := trip h1 h2 i (by omega)
    rw [plainTo] at hp
    generalize hx : plainTo t0 i = x at ih ht hp
    obtain ⟨t, fd⟩ := x
    dsimp only at ih ht
    unfold stepP at hp
    dsimp only at hp
    split at hp
    · rename_i hlt
      dsimp only at hp
      rcases List.mem_append.mp hp with hp | hp
      · exact ih p hp
      · obtain ⟨a, b, e⟩ := bestP_two hlt
        obtain ⟨ma, mb⟩ := bestP_chars hlt e
        rw [List.mem_singleton.mp hp, e]
        have := (ht.chars a ma).lt (by omega)
        have := (ht.chars b mb).lt (by omega)
        refine ⟨?_, ?_⟩
        · intro c hc
          simp only [List.mem_cons, List.not_mem_nil, or_false] at hc
          omega
        · intro c hc
          simp only [List.mem_cons, List.not_mem_nil, or_false] at hc
          omega
    · exact ih p hp
def rDat (t : List Nat) (fd : List PD) : Dat := .tuple [.str (ofL t), .list (fd.map pDat)]
theorem rDat_ok {t : List Nat} {fd : List PD} (h : ∀ c ∈ t, c < 256) (h2 : ∀ p ∈ fd, (∀ c ∈ p.1, c < 256) ∧ (∀ c ∈ p.2, c < 256)) : kqdOk 8 (rDat t fd) = true := by
  have e := strOk_ofL h
  have e2 : ∀ n, (fd.map pDat).all (kqdOk (n + 1)) = true := fun n => by
    rw [List.all_eq_true]
    intro x hx
    obtain ⟨d, hd, rfl⟩ := List.mem_map.mp hx
    exact pDat_ok (h2 d hd).1 (h2 d hd).2 n
  unfold rDat
  simp only [kqdOk, List.all_cons, List.all_nil, e, Bool.true_and, Bool.and_true]
  exact e2 _
section
variable {prog : Program} {w : World} {A : Around} {E : Value → Shared → Prop} {s : Shared} {h₀ : Heap} {L : Addr} {news : List (Addr × Obj)} {Q : Value → Shared → Prop}
theorem rDat_in {a l : Addr} {t : List Nat} {fd : List PD} {fs : List Value} {t1 : Tok} {c n : Nat} {T : List (Addr × Obj)} (ma : (a, tO (.str (ofL t) t1) (.ref l) c) ∈ news) (ml : (l, W.listOf fs.toArray n) ∈ news) (hT : Sub T news) (hp : PTs T fs fd) : DatIn news (.ref a) (rDat t fd) :=
  .tuple (vs := [.str (ofL t) t1, .ref l]) ma (.cons (.str _ _) (.cons (.list ml (DatAll.mono hT hp.dat)) .nil))
theorem ne_told {v u : Value} {t : List Nat} {fd : List PD} (N : News h₀ L s.heap news) (ha : DatIn news v (rDat t fd)) (hb : DatIn news u (rDat t fd)) (h1 : ∀ c ∈ t, c < 256) (h2 : ∀ p ∈ fd, (∀ c ∈ p.1, c < 256) ∧ (∀ c ∈ p.2, c < 256)) (hu : A.units + 64 < cLine) (h : Q (.bool false) s) :
    wpAny (model prog w) A (compareOp .NotEq v u) Q E s := by
  refine ne_M N ha hb (rDat_ok h1 h2) (rDat_ok h1 h2) hu ?_
  have e : (!@decide (rDat t fd = rDat t fd) (Classical.propDecidable _)) = false := by simp
  rw [e]; exact h
end
section
variable {prog : Program} {w : World} {A : Around} {s : Shared} {env : Env} {h₀ : Heap}
theorem go_pair {scope : Scope} {cl : List (Str × Addr)} {xi xc : Str} {pk pv pt : Pos} {x1 : Nat} {l C I a : Addr} {u1 u2 : Value} {c i : Nat} {h : Heap} {tk : Nat} {mc : Str → Option Value} {nx : List (Addr × Obj)} {B : (Str → Option Value) → Prop} (hh : A.handled = none)
    (hkind : scope.kind = .function) (hxi : scope.names.lookup xi = some .local) (hxc : scope.names.lookup xc = some .local) (hne : xi ≠ xc) (hit : h.IsListIter I l i) (F : Fr h₀ C h mc) (N : News h₀ C h nx) (hm : (a, tO u1 u2 c) ∈ nx) (hB : ∀ mc', mc' xi = some u1 → mc' xc = some u2 → B mc') :
      wpAny (model prog w) A (letOwnedTupleGo (.Tuple [.Name xi pk, .Name xc pv] x1 pt) (.ref I) (.ref a)) (fun _ s₁ => wpAny (model prog w) A (assign (.Tuple [.Name xi pk, .Name xc pv] x1 pt) (compEnvC scope cl C env) (.ref a)) (fun _ s₂ =>
        ∃ h' tk' mc', s₂ = { s with heap := h', toks := tk' } ∧ Fr h₀ C h' mc' ∧ News h₀ C h' nx ∧ B mc') (fun _ _ => False) s₁) (fun _ _ => False) { s with heap := h, toks := tk } := by
  refine wpAny_letOwnedTupleGo_listiter hit ?_
  refine unpack2 (env := compEnvC scope cl C env) hh (lookup_relabel_local hxi) (lookup_relabel_local hxc) (by simp [compEnvC, relabel, hkind]) F N hm fun h' tk' F' N' => ?_
  exact ⟨h', tk', _, rfl, F', N', hB _ (by simp [hne]) (by simp)⟩
end
end Mine
end
section
open PySem PySem.W PyProof.Rows PySem.Calls
set_option maxRecDepth 100000
set_option maxHeartbeats 2000000
namespace Mine
local macro_rules | `(tactic| walk_at "ST") => `(tactic| repeat' (
  (fail_if_success (with_reducible show wpAny _ _ (eval (Expr.ListComp _ _ _ _) _) _ _ _));
  (fail_if_success (with_reducible show wpAny _ _ (pyIter _) _ _ _));
  (fail_if_success (with_reducible show wpAny _ _ (call (Value.ref _) _ _) _ _ _));
  (fail_if_success (with_reducible show wpAny _ _ (compareOp _ (Value.ref _) _) _ _ _));
  (fail_if_success (with_reducible show wpAny _ _ (subscriptTail _ _ (Value.str _ _) _) _ _ _));
  (fail_if_success (with_reducible show wpAny _ _ (subscriptTail _ _ (Value.ref _) _) _ _ _));
  (fail_if_success (with_reducible show wpAny _ _ (call (Value.builtin "str.join") _ _) _ _ _));
  (fail_if_success (with_reducible show wpAny _ _ (binaryOp _ (Value.str _ _) _) _ _ _));
  (fail_if_success (with_reducible show wpAny _ _ (compareOp CmpOp.Eq (Value.str _ _) _) _ _ _));
  first | (k_unfold; (try dsimp only)) | walk1 | (dsimp only; walk1)))
local macro_rules | `(tactic| walk_at "eval Name") => `(tactic| (k_here; (with_reducible show wpAny _ _ (eval (Expr.Name _ _) (compEnvC _ _ _ _)) _ _ _); (rename Fr _ _ _ _ => fM'); (rename News _ _ _ _ => nM'); k_dflt (first
  | (refine nmL fM' (by with_reducible assumption) ?_ rfl rfl (by decide))
  | (refine nmC nM' rfl (by with_reducible assumption) (by with_reducible assumption) ?_ rfl rfl (by decide))
  | (refine nmG ?kC fM' (by k_is) ?_ rfl rfl rfl (by decide); (case kC => assumption))
  | (refine nmB ?kC fM' (by k_is) (by boot_fast) (by decide) ?_ rfl rfl rfl rfl (by decide); (case kC => assumption)))))
theorem eq_same {prog : Program} {w : World} {A : Around} {E : Value → Shared → Prop} {s : Shared} {Q : Value → Shared → Prop} {x : Str} {t u : Tok} (h : Q (.bool true) s) :
    wpAny (model prog w) A (compareOp .Eq (.str x t) (.str x u)) Q E s := PySem.P.eq_str (by simpa using h)
theorem law_holds : PySem.Challenge.rw_mj0098_01.Holds := by
  refine hd ?_
  k_go0
  all_goals try k_fold
  rename World => w
  rename Frag.In _ _ => KX
  rename Top _ _ _ _ _ _ => T0
  rename Fr _ _ _ _ => F0
  rename News _ _ _ _ => N0
  rename Heap.IsList _ _ _ => hL0
  rename IntsAre _ _ => hI0
  rename ¬ (_ < _) => hlen0
  rename_i s0 s1 mg mb G0 Y0 fa fo pm0 doc0 kV0 ho0 hg0 X0 V0 GL0 B0 TE0 TW0 q1 q2 M0 cdA q4 hcd0 ns hs0 hlay0 hL1 hr1 hl2 q5 q6 S vs q7 ra0 w1 r0 hr0 hcond0 K0 hD0 h1
  have C : Cx w s1.heap := ⟨KX, _, _, topRead_of T0⟩
  refine wpAny_mono (Q := fun f s' => f = .ret (.bool true) ∧ ∃ h' tk, s' = { s1 with heap := h', toks := tk } ∧ ∀ b o, s1.heap.get? b = some o → h'.get? b = some o) (E := fun _ _ => False) ?_ ?_ ?_
  rotate_left
  · rintro f s' ⟨rfl, h', tk, rfl, hk⟩
    clear KX C F0 N0
    exact ⟨.inl ⟨.bool true, .bool true, [], rfl, fun _ => rfl, .bool true, by with_unfolding_all rfl, fun _ => ⟨List.nodup_nil, fun a ha => nomatch ha⟩⟩, hk, rfl, hg0⟩
  · exact fun _ _ h => h.elim
  clear G0 Y0 GL0 B0 TE0 TW0 M0 hcd0 hs0 hlay0 hL1 hr1 hl2 ra0 w1 r0 hr0 hcond0 K0 hD0 KX T0 X0 V0
  obtain ⟨X', mg', mb', T'⟩ := id C
  generalize hgg : s1.heap = g at C F0 N0 hL0 X' T' ⊢
  generalize hLL : g.objs.size = L at F0 N0 ⊢
  try dsimp only
  k_fold
  walk_at "ST"
  refine eval_comp (cl := []) rfl rfl (by decide) ?_
  walk_at "ST"
  have hlenI := hI0.length
  refine kmk_slice_ints (s := ⟨_, _, _, _, _⟩) F0 N0 (hL0.at fun o e => F0.keep S o e) .none (.int 12 _) hI0 (kmk_upto hI0 (by decide)) rfl ?_ (by with_unfolding_all rfl) (by intro _; with_unfolding_all rfl) (by rw [List.size_toArray, sizeLine_eq]; omega)
  intro D ws h2 F2 N2 _ hI2 _ _
  clear F0 N0
  have hlenI2 := hI2.length
  have e12 : (ns.take (Int.toNat 12)) = ns.take 12 := rfl
  rw [e12] at hI2 hlenI2
  have hms : (ns.take 12).length ≤ 12 := by rw [List.length_take]; omega
  generalize ns.take 12 = ms at hI2 hlenI2 hms
  clear hI0 hL0 hlenI hlen0
  refine comp_listM (fun k ys nx => nx = [(D, W.listOf ws.toArray 0)] ∧ TV ys ((ms.map fun x => [97 + (x % 3).toNat]).take k)) (fun k v mc => mc (Str.ofString "x") = some v)
    rfl (by decide) rfl (News.isList N2 (.head _)) (N2 _ (.head _)).2.1 (by omega) F2 N2 ⟨rfl, .nil⟩ ?_ ?_ ?_
  · intro C I i v h tk mc nx ys nj hv hJ hsub hit F N
    exact go_name (l := D) (i := 0) rfl rfl F N (fun mc' h => h)
  · rintro Cc D2 I' k v ys nx ep5 oL h5 tk5 mc own5 hv ⟨rfl, hZ⟩ hB hzl hown5 ⟨oI', hoI'⟩ hnx F5 N5
    clear F2 N2
    refine wpAny_tests_nil ?_
    simp only [if_true]
    have hk0 : k < ms.length := by
      obtain ⟨hh, _⟩ := List.getElem?_eq_some_iff.mp hv
      omega
    obtain ⟨tx, hv'⟩ := hI2.get k ms[k] (List.getElem?_eq_getElem hk0)
    rw [hv] at hv'
    cases hv'
    generalize hxk : ms[k] = xk at hv hB
    have m0 := Int.emod_nonneg xk (show (3 : Int) ≠ 0 by decide)
    have m1 := Int.emod_lt_of_pos xk (show (0 : Int) < 3 by decide)
    walk_at "ST"
    rename Fr _ _ _ _ => F8
    rename News _ _ _ _ => N8
    refine abc_M ?_
    refine ⟨h5, _, mc, _, rfl, F8, N8, hnx, rfl, ?_⟩
    rw [takeSucc (x := [97 + (xk % 3).toNat]) (by rw [List.getElem?_map, List.getElem?_eq_getElem hk0, hxk]; rfl)]
    exact hZ.snoc
  · rintro D2 Cc ys nx ep6 h6 tk6 mc ⟨rfl, hZ⟩ hne6 hDL hDC hCL hC0 hlD F6 N6 hNs
    clear F2 N2
    refine post_none F6 N6 hNs hCL hC0 ?_ ?_
    · intro p hp
      rcases List.mem_cons.mp hp with rfl | hp
      · exact hDC
      · exact (hne6 p hp).2
    intro h7 F7 N7
    clear F6 N6 hNs
    have hyl : ys.length = ms.length := by rw [hZ.len, hlenI2, List.length_take, List.length_map]; omega
    rw [hlenI2, List.take_of_length_le (by rw [List.length_map]; omega)] at hZ
    replace F7 : Fr g L h7 _ := F7
    replace N7 : News g L h7 ((D2, W.listOf ys.toArray ep6) :: [(D, W.listOf ws.toArray 0)]) := N7
    walk_at "ST"
    have hjw := lawT_w ms
    refine join_M N7 hZ (by decide +kernel) (by rw [hjw, List.length_map, List.length_map]; omega) ?_
    intro t8 k8
    walk_at "ST"
    refine SB.add ?_ ?_
    rotate_left
    · have e1 : (Str.ofString "abcabc").length = 6 := by decide +kernel
      have e2 := congrArg Str.length (lawT_is ms)
      rw [Str.length_append, ofL_len] at e2
      have e3 := lawT_len hms
      rw [sizeLine_eq]; omega
    intro t9 k9
    rw [lawT_is ms]
    have hok := lawT_ok (ms := ms)
    have hle := lawT_len hms
    generalize lawT ms = tx at hok hle ⊢
    have hA0 : ∀ env, ALe (callerA.deeper env) 490 := fun env => ⟨rfl, by show 1 + claimMargin + 1 ≤ 490; decide, by show 4 + 3 ≤ 490; decide⟩
    walk_at "ST"
    rename Fr _ _ _ _ => F10
    rename News _ _ _ _ => N10
    have htr := trip hok hle 10 (Nat.le_refl _)
    have hpp := plain_pairs hok hle 10 (Nat.le_refl _)
    generalize hP : plainTo tx 10 = P at htr hpp
    obtain ⟨t, fd⟩ := P
    dsimp only at htr hpp
    refine pressed_spec C F10 N10 (hA0 _) hle hok ?_
    intro h11 tk11 a l fs ep t2 c T F11 N11 hs11 hp11 hoff11 hal
    rw [hP] at N11 hp11
    dsimp only at N11 hp11
    (try clear F10); (try clear N10); (try clear F7); (try clear N7)
    walk_at "ST"
    rename Fr _ _ _ _ => F12
    rename News _ _ _ _ => N12
    refine plain_spec C F12 N12 ((hA0 _).mono (by decide)) (by omega) ?_
    intro h13 tk13 a2 l2 fs2 ep2 t3 c2 T2 F13 N13 hs13 hp13 hoff13 hal2
    rw [hP] at N13 hp13
    dsimp only at N13 hp13
    (try clear F12); (try clear N12); (try clear F11); (try clear N11)
    have t256 : ∀ c ∈ t, c < 256 := fun c hc => (htr.chars c hc).lt (Nat.le_refl _)
    walk_at "ST"
    refine ne_told N13 (rDat_in (l := l) (T := T) (.tail _ (.tail _ (hs13 _ (.head _)))) (.tail _ (.tail _ (hs13 _ (.tail _ (.head _))))) (fun p hp => .tail _ (.tail _ (hs13 _ (.tail _ (.tail _ hp))))) hp11) (rDat_in (T := T2) (.head _) (.tail _ (.head _)) (fun p hp => .tail _ (.tail _ hp)) hp13) t256 hpp (by k_units) ?_
    have N14 := KStt.news_of N13 (b := (a, tO (.str (ofL t) t2) (.ref l) c) :: (l, W.listOf fs.toArray ep) :: T) fun p hp => .tail _ (.tail _ (hs13 p hp))
    clear N13 hs13 hp13 hoff13 hal2 hs11
    have hfdn := htr.num
    have hfsl := hp11.len
    walk_at "ST"
    refine eval_comp (cl := []) rfl rfl (by decide) ?_
    walk_at "ST"
    refine tupI1 N14 (.head _) ?_ (by with_unfolding_all rfl) (by intro _; with_unfolding_all rfl)
    walk_at "ST"
    refine kba_turn (value' := PySem.Expr.Name (PySem.Str.ofString "told") ⟨0, 0, 0, 0⟩) (fun _ => rfl) ?_
    refine krv_lit (s := ⟨_, _, _, _, _⟩) F13 N14 (News.isList N14 (.tail _ (.head _))) (.int (-1) _) (zs := fs.reverse) rfl ?_ (by with_unfolding_all rfl) (by intro _; with_unfolding_all rfl) (by rw [List.size_toArray, sizeLine_eq]; omega)
    intro D3 h15 F15 N15 l15
    (try clear F13); (try clear N14)
    have hrev := hp11.reverse
    have hrl := hrev.len
    generalize hrfd : fd.reverse = rfd at hrev hrl
    refine comp_listM (fun k ys nx => ∃ U, nx = U ++ ((D3, W.listOf fs.reverse.toArray 0) :: (a, tO (.str (ofL t) t2) (.ref l) c) :: (l, W.listOf fs.toArray ep) :: T) ∧ PTs U ys ((rfd.map swapP).take k) ∧ (∀ p ∈ U, D3 < p.1))
      (fun k v mc => ∃ p t1 t2, rfd[k]? = some p ∧ mc (Str.ofString "two") = some (.str (ofL p.1) t1) ∧ mc (Str.ofString "sign") = some (.str (ofL p.2) t2))
      rfl (by decide) rfl (News.isList N15 (.head _)) (N15 _ (.head _)).2.1 (by rw [List.length_reverse]; omega) F15 N15 ⟨[], rfl, trivial, fun p hp => nomatch hp⟩ ?_ ?_ ?_
    · rintro C I i v h tk mc nx ys nj hv ⟨U, rfl, hU, hUl⟩ hsub hit F N
      obtain ⟨d, hd, aa, t1, t2, n, rfl, hm⟩ := hrev.get hv
      exact go_pair rfl rfl rfl rfl (by decide) hit F N (hsub _ (List.mem_append_right _ (.tail _ (.tail _ (.tail _ hm))))) fun mc' h1 h2 => ⟨d, t1, t2, hd, h1, h2⟩
    · rintro Cc D4 I' k v ys nx ep5 oL h5 tk5 mc own5 hv ⟨U, rfl, hU, hUl⟩ ⟨d, u1, u2, hd, hm1, hm2⟩ hzl hown5 ⟨oI', hoI'⟩ hnx F5 N5
      clear F15 N15
      refine wpAny_tests_nil ?_
      simp only [if_true]
      replace N5 : News g Cc h5 ((D4, W.listOf ys.toArray ep5) :: (L, oL) :: (own5 ++ (U ++ ((D3, W.listOf fs.reverse.toArray 0) :: (a, tO (.str (ofL t) t2) (.ref l) c) :: (l, W.listOf fs.toArray ep) :: T)))) := N5
      generalize hLD : ((D4, W.listOf ys.toArray ep5) :: (L, oL) :: (own5 ++ (U ++ ((D3, W.listOf fs.reverse.toArray 0) :: (a, tO (.str (ofL t) t2) (.ref l) c) :: (l, W.listOf fs.toArray ep) :: T)))) = LD at N5
      walk_at "ST"
      rename_i D' h8 F8 N8 l8
      replace N8 : News g Cc h8 ((D', tO (.str (ofL d.2) u2) (.str (ofL d.1) u1) 0) :: LD) := N8
      subst hLD
      refine ⟨h8, _, mc, (D', tO (.str (ofL d.2) u2) (.str (ofL d.1) u1) 0) :: (U ++ ((D3, W.listOf fs.reverse.toArray 0) :: (a, tO (.str (ofL t) t2) (.ref l) c) :: (l, W.listOf fs.toArray ep) :: T)), rfl, F8, KStt.news_of N8 ?_, ?_, (D', tO (.str (ofL d.2) u2) (.str (ofL d.1) u1) 0) :: U, rfl, ?_, ?_⟩
      · intro p hp
        simp only [List.mem_cons, List.mem_append] at hp ⊢
        rcases hp with hp | hp | hp | hp | hp
        · exact .inr (.inl hp)
        · exact .inr (.inr (.inl hp))
        · exact .inr (.inr (.inr (.inl hp)))
        · exact .inl hp
        · exact .inr (.inr (.inr (.inr hp)))
      · intro p hp
        rcases List.mem_cons.mp hp with rfl | hp
        · exact ⟨Ne.symm (Nat.ne_of_lt (l8 _ (.head _))), Ne.symm (Nat.ne_of_lt (l8 _ (.tail _ (.head _)))), Ne.symm (Nat.ne_of_lt (l8 _ (.tail _ (.tail _ (List.mem_append_left _ hoI')))))⟩
        · exact hnx p hp
      · rw [takeSucc (x := swapP d) (by rw [List.getElem?_map, hd]; rfl)]
        exact PTs.snoc (d := swapP d) ⟨D', u2, u1, 0, rfl, .head _⟩ (hU.mono fun p hp => .tail _ hp)
      · intro p hp
        rcases List.mem_cons.mp hp with rfl | hp
        · exact l8 _ (.tail _ (.tail _ (List.mem_append_right _ (List.mem_append_right _ (.head _)))))
        · exact hUl p hp
    · rintro D4 Cc ys nx ep6 h6 tk6 mc ⟨U, rfl, hU, hUl⟩ hne6 hDL hDC hCL hC0 hlD F6 N6 hNs
      clear F15 N15
      refine post_none F6 N6 hNs hCL hC0 ?_ ?_
      · intro p hp
        rcases List.mem_cons.mp hp with rfl | hp
        · exact hDC
        · exact (hne6 p hp).2
      intro h7 F7 N7
      clear F6 N6 hNs
      have hrl2 : fs.reverse.length = (rfd.map swapP).length := by rw [List.length_map]; exact hrl
      rw [hrl2, List.take_length] at hU
      replace F7 : Fr g L h7 _ := F7
      replace N7 : News g L h7 ((D4, W.listOf ys.toArray ep6) :: (U ++ ((D3, W.listOf fs.reverse.toArray 0) :: (a, tO (.str (ofL t) t2) (.ref l) c) :: (l, W.listOf fs.toArray ep) :: T))) := N7
      have hrfl : (rfd.map swapP).length ≤ 1000 := by rw [← hrl2, List.length_reverse]; omega
      walk_at "ST"
      refine flat_spec C F7 N7 (.head _) (T₀ := U) (fun p hp => .tail _ (List.mem_append_left _ hp)) hU ((hA0 _).mono (by decide)) hrfl ?_
      intro h16 tk16 lb vsb epb F16 N16 l16 hvb
      have N17 := KStt.news_of N16 (b := (a, tO (.str (ofL t) t2) (.ref l) c) :: (l, W.listOf fs.toArray ep) :: (lb, W.listOf vsb.toArray epb) :: T) (by
        intro p hp
        simp only [List.mem_cons, List.mem_append] at hp ⊢
        rcases hp with h | h | h | h
        · exact .inr (.inr (.inr (.inr (.inl h))))
        · exact .inr (.inr (.inr (.inr (.inr (.inl h)))))
        · exact .inl h
        · exact .inr (.inr (.inr (.inr (.inr (.inr h))))))
      clear N16 N7 F7
      walk_at "ST"
      rename Fr _ _ _ _ => F18
      rename News _ _ _ _ => N18
      refine tupI1 N18 (.head _) ?_ (by with_unfolding_all rfl) (by intro _; with_unfolding_all rfl)
      walk_at "ST"
      refine flat_spec C F18 N18 (.tail _ (.head _)) (T₀ := T) (fun p hp => .tail _ (.tail _ (.tail _ hp))) hp11 ((hA0 _).mono (by decide)) (by omega) ?_
      intro h19 tk19 lc vsc epc F19 N19 l19 hvc
      (try clear F18); (try clear N18)
      have N20 := KStt.news_of N19 (b := (a, tO (.str (ofL t) t2) (.ref l) c) :: (lb, W.listOf vsb.toArray epb) :: (lc, W.listOf vsc.toArray epc) :: T) (by
        intro p hp
        simp only [List.mem_cons] at hp ⊢
        rcases hp with h | h | h | h
        · exact .inr (.inl h)
        · exact .inr (.inr (.inr (.inl h)))
        · exact .inl h
        · exact .inr (.inr (.inr (.inr h))))
      clear N19
      have hvcl := hvc.len
      have hvbl := hvb.len
      rw [flatP_len] at hvcl hvbl
      rw [← hrl2, List.length_reverse] at hvbl
      walk_at "ST"
      refine star_seq (ws := vsc) F19 N20 (.tail _ (.tail _ (.head _))) rfl rfl (.inl rfl) rfl (by rw [List.size_toArray, sizeLine_eq]; omega) ?_
      intro h21 F21 N21
      (try clear F19); (try clear N20)
      obtain ⟨gf1, gf2⟩ := htr.fwd [] (by decide) .nil
      obtain ⟨gb1, gb2⟩ := htr.bwd [] (by decide) .nil
      rw [List.append_nil] at gf1 gf2 gb1 gb2
      rw [hrfd] at gb1 gb2
      replace gf2 : replS (ofL tx) ((flatP fd).map ofL) = ofL t := gf2
      replace gb2 : replS (ofL t) ((flatP (rfd.map swapP)).map ofL) = ofL tx := gb2
      walk_at "ST"
      rw [List.append_nil]
      refine replace_spec C F21 N21 ((hA0 _).mono (by decide)) hvc gf1 (by rw [List.length_map, flatP_len]; omega) ?_
      intro h22 tk22 t22 F22 N22
      rw [gf2]
      (try clear F21); (try clear N21)
      walk_at "ST"
      rename Fr _ _ _ _ => F23
      rename News _ _ _ _ => N23
      refine tupI0 N23 (.head _) ?_ (by with_unfolding_all rfl) (by intro _; with_unfolding_all rfl)
      walk_at "ST"
      refine eq_same ?_
      walk_at "ST"
      refine tupI0 N23 (.head _) ?_ (by with_unfolding_all rfl) (by intro _; with_unfolding_all rfl)
      walk_at "ST"
      refine star_seq (ws := vsb) F23 N23 (.tail _ (.head _)) rfl rfl (.inl rfl) rfl (by rw [List.size_toArray, sizeLine_eq]; omega) ?_
      intro h24 F24 N24
      (try clear F23); (try clear N23)
      walk_at "ST"
      rw [List.append_nil]
      refine replace_spec C F24 N24 ((hA0 _).mono (by decide)) hvb gb1 (by rw [List.length_map, flatP_len, ← hrl2, List.length_reverse]; omega) ?_
      intro h25 tk25 t25 F25 N25
      rw [gb2]
      (try clear F24); (try clear N24)
      walk_at "ST"
      refine eq_same ?_
      exact ⟨rfl, h25, tk25, rfl, fun b o e => F25.keep b o e⟩
end Mine
end
theorem PySem.Challenge.cw_mj0098_01_holds : PySem.Challenge.rw_mj0098_01.Holds :=
  Mine.law_holds
