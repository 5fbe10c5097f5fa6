import PyProof.Rows.All
import Wide.All
import OpenK.AllK
import Wide.FinOn
import PySem.Challenge.RW_ik0194_01
set_option Elab.async false
set_option rowWalk.seconds 0

section
open PySem PySem.W PyProof.Rows
set_option maxRecDepth 100000
set_option maxHeartbeats 8000000
/- Nothing uses the names of this block. While they are taken, open_top lays no equality between a constant and its copy of written signs (makeTwin in Open/Fast.lean goes on without): 26 MB of a compiled text that may have 32 MiB. -/
namespace PySem.W.Fast
def tw8075568018651887793 : Nat := 0
def tw4610676492132357926 : Nat := 0
def tw17879205107887318197 : Nat := 0
def tw14979626087600564940 : Nat := 0
def tw3934468551298956420 : Nat := 0
def tw11568815363187515441 : Nat := 0
def tw16860790470070532269 : Nat := 0
def tw868157144444988819 : Nat := 0
def tw17111948838632640456 : Nat := 0
def tw17804504610050584030 : Nat := 0
def tw18213545369034332514 : Nat := 0
def tw9759809726879904816 : Nat := 0
def tw8119918657739134586 : Nat := 0
def tw7323676302269181137 : Nat := 0
def tw460243522976405022 : Nat := 0
def tw16643379632663270332 : Nat := 0
def tw12945451867199242903 : Nat := 0
def tw1218959903707654005 : Nat := 0
def tw2859041830047134086 : Nat := 0
def tw15894407043143930727 : Nat := 0
def tw12268644228514654432 : Nat := 0
def tw11588390666370768167 : Nat := 0
def tw18345786424863182364 : Nat := 0
def tw11277716924127702174 : Nat := 0
def tw6589095468515690095 : Nat := 0
def tw3891137856419664920 : Nat := 0
def tw17828083071136270317 : Nat := 0
def tw1702518465993881591 : Nat := 0
def tw15980859228951719591 : Nat := 0
def tw17497748084772794779 : Nat := 0
def tw14223099787259518943 : Nat := 0
def tw8753696776887207221 : Nat := 0
def tw5065222861578795731 : Nat := 0
def tw13559156169165276386 : Nat := 0
def tw5770868932273138760 : Nat := 0
def tw7232422423428716515 : Nat := 0
def tw12659028871203227004 : Nat := 0
def tw11939915149646268982 : Nat := 0
def tw17954471519018878134 : Nat := 0
def tw3282434896037501709 : Nat := 0
def tw1402947280878808549 : Nat := 0
def tw15112985482279097393 : Nat := 0
def tw11306939235166856333 : Nat := 0
def tw10996506086634736982 : Nat := 0
def tw932993149863042379 : Nat := 0
def tw1377046205977697930 : Nat := 0
def tw13016732220969518872 : Nat := 0
def tw3972328310683599613 : Nat := 0
def tw16846860572762119324 : Nat := 0
def tw1355338860687761863 : Nat := 0
def tw14386061602966655976 : Nat := 0
def tw10833955939284561965 : Nat := 0
def tw16548257151911338427 : Nat := 0
def tw682011567655089306 : Nat := 0
def tw17730448691065144110 : Nat := 0
def tw8376441433122354887 : Nat := 0
def tw1291980286583624508 : Nat := 0
def tw6434138532213402376 : Nat := 0
def tw8860024209350480642 : Nat := 0
def tw8603108125212654177 : Nat := 0
def tw3152983702415266003 : Nat := 0
def tw11566699232636054958 : Nat := 0
def tw3560238982266916124 : Nat := 0
def tw17532718790514356516 : Nat := 0
def tw17532440430192770315 : Nat := 0
def tw7392212959928792091 : Nat := 0
def tw10942035263794033107 : Nat := 0
def tw13789449189825218787 : Nat := 0
def tw6929956602132211858 : Nat := 0
def tw8595292554425487202 : Nat := 0
def tw15066959818950650227 : Nat := 0
end PySem.W.Fast
namespace Mine
open_top hd for PySem.Challenge.rw_ik0194_01


theorem calm : True := by
  w_top off
  trivial
end Mine
end

section
open PySem PySem.W PyProof.Rows PySem.Calls
set_option maxRecDepth 100000
namespace Mine
/-- the standing ground for a contract: nothing is known of the stack but its depth -/
abbrev A0 (n : Nat) : Around := { handled := none, depth := n, frames := none, guards := none, units := 8 * n }

theorem in_up {Γ : Ctx} {A : Around} {n : Nat} (h : Γ.In A) (hh : A.handled = none) (hd : A.depth ≤ n) (hu : A.units ≤ 8 * n) : Γ.In (A0 n) :=
  ⟨h.1.trans hh, Nat.le_trans h.2.1 hd, (by intro l e; cases e), (by intro l e; cases e), Nat.le_trans h.2.2.2.2 hu⟩
theorem below_up {Γ : Ctx} {A : Around} {n : Nat} (h : Γ.Below A) (hh : A.handled = none) (hd : A.depth ≤ n) (hu : A.units ≤ 8 * n) : Γ.Below (A0 n) :=
  ⟨h.1.trans hh, Nat.le_trans h.2.1 hd, (by intro l e; cases e), (by intro l e; cases e), Nat.le_trans h.2.2.2.2 hu⟩
theorem wp_up {α : Type} {M : Model} {A : Around} {n : Nat} {t : Sem α} {Q : α → Shared → Prop} {E : Value → Shared → Prop} {s : Shared}
    (h : wpAny M (A0 n) t Q E s) (hh : A.handled = none) (hd : A.depth ≤ n) (hu : A.units ≤ 8 * n) : wpAny M A t Q E s :=
  fun Γ p hΓ => h Γ p (in_up hΓ hh hd hu)
theorem code_up {M : Model} {A : Around} {n : Nat} {c : Code} {R : Result → Shared → Prop} {s : Shared}
    (h : codeAny M (A0 n) c R s) (hh : A.handled = none) (hd : A.depth ≤ n) (hu : A.units ≤ 8 * n) : codeAny M A c R s :=
  fun Γ p hc hΓ => h Γ p hc (below_up hΓ hh hd hu)

section
variable {prog : Program} {w : World} {A : Around} {s : Shared} {h₀ : Heap} {K : Frag} {p : Program} {loose : List Str} {mean : ExcName → Option Value} {mg mb : Str → Option Value}
  {R : Result → Shared → Prop} {name qual : Str} {params : Arguments} {body : List Stmt} {scope : Scope} {dV kV doc pm cdv ct oc : Value} {an od : Option Addr} {osl : Array (Option Value)} {f : Addr} {args : Args} {binds : List (Str × Value)}

/-- into a def, with the objects that it may change on the ledger, all else beneath it -/
theorem enter (muts : List (Addr × Obj)) (X : K.In h₀) (T : Top p loose mean mg mb h₀) (st : h₀.StaysIn s.heap) (hm : ∀ q ∈ muts, s.heap.get? q.1 = some q.2 ∧ h₀.get? q.1 = none)
    (ho : K.lookup f = some ⟨oc, od, .func (fnOf name qual params body scope dV kV doc pm an cdv ct), osl⟩) (hcd : codeIn K cdv qual = true) (hroom : A.depth < recursionLimit)
    (hbind : BindsTo s (fnOf name qual params body scope dV kV doc pm an cdv ct) args binds) (hloc : ∀ y ∈ binds, scope.names.lookup y.1 = some .local)
    (h : ∀ g L h₁, K.In g → Top p loose mean mg mb g → (∀ b o, s.heap.get? b = some o → b ∉ muts.map (·.1) → g.get? b = some o) → (∀ b o, g.get? b = some o → s.heap.get? b = some o) →
      (∀ q ∈ muts, q.1 < L) → Fr g L h₁ (fun y => binds.reverse.lookup y) → News g L h₁ muts →
      wpAny (model prog w) (A.deeper (envX qual scope L f cdv [])) (execs body (envX qual scope L f cdv []))
        (fun fl s' => R (.ok (.ret (match fl with | .ret v => v | _ => .none))) s') (fun _ _ => False) { s with heap := h₁, toks := s.toks + binds.length })
    (hco : scope.isCoroutine = false) (hgen : scope.isGenerator = false) (hk : scope.kind = .function)
    (hcell : ∀ x ∈ scope.names, x.2 ≠ .cell) : codeAny (model prog w) A (.call (.ref f) args) R s := by
  have Xs := X.keeps st
  have Ts := T.keeps st
  have nm : ∀ b o, h₀.get? b = some o → b ∉ muts.map (·.1) := fun b o e q => by
    obtain ⟨r, hr, rfl⟩ := List.mem_map.mp q
    rw [(hm r hr).2] at e; cases e
  have sg : h₀.StaysIn (hideAll s.heap (muts.map (·.1))) := fun b o e => hideAll_get _ (st b o e) (nm b o e)
  refine codeAny_call_def (fd := fnOf name qual params body scope dV kV doc pm an cdv ct) (body := body) (binds := binds) hroom (Xs _ _ ho) rfl Ts.nolimit (codeRec_of Xs hcd) rfl hbind hcell hloc (fun h₁ hns hk₁ => ?_) hco hgen hk
  refine wpAny_mono (h _ s.heap.objs.size h₁ (X.keeps sg) (T.keeps sg) (fun b o e n => hideAll_get _ e n) (fun b o e => of_hideAll _ e) (fun q hq => Heap.lt_size (hm q hq).1)
    ⟨hns, fun b o e => hk₁ b o (of_hideAll _ e), Nat.le_of_eq (hideAll_size _ _)⟩ (fun q hq => ⟨hk₁ _ _ (hm q hq).1, Nat.ne_of_lt (Heap.lt_size (hm q hq).1), hideAll_none _ (List.mem_map_of_mem hq)⟩)) (fun _ _ x => x) fun _ _ x => x.elim

/-- the same for a def with *rest: the rest is a new tuple -/
theorem enter_rest {vs : List Value} {bindsD : Addr → List (Str × Value)} (X : K.In h₀) (T : Top p loose mean mg mb h₀) (st : h₀.StaysIn s.heap)
    (ho : K.lookup f = some ⟨oc, od, .func (fnOf name qual params body scope dV kV doc pm an cdv ct), osl⟩) (hcd : codeIn K cdv qual = true) (hroom : A.depth < recursionLimit)
    (hbind : bindArgs (fnOf name qual params body scope dV kV doc pm an cdv ct) args = (alloc ({ cls := .type "tuple", data := .seq vs.toArray } : Obj) >>= fun D => pure (bindsD D)))
    (hloc : ∀ D, ∀ y ∈ bindsD D, scope.names.lookup y.1 = some .local)
    (h : ∀ D g L h₁, K.In g → Top p loose mean mg mb g → (∀ b o, s.heap.get? b = some o → g.get? b = some o) → g.get? D = some { cls := .type "tuple", data := .seq vs.toArray } →
      Fr g L h₁ (fun y => (bindsD D).reverse.lookup y) → News g L h₁ [] →
      wpAny (model prog w) (A.deeper (envX qual scope L f cdv [])) (execs body (envX qual scope L f cdv []))
        (fun fl s' => R (.ok (.ret (match fl with | .ret v => v | _ => .none))) s') (fun _ _ => False) { s with heap := h₁, toks := s.toks + (bindsD D).length })
    (hco : scope.isCoroutine = false) (hgen : scope.isGenerator = false) (hk : scope.kind = .function)
    (hcell : ∀ x ∈ scope.names, x.2 ≠ .cell) : codeAny (model prog w) A (.call (.ref f) args) R s := by
  have Xs := X.keeps st
  have Ts := T.keeps st
  refine codeAny_call_function (fd := fnOf name qual params body scope dV kV doc pm an cdv ct) (body := body) hroom (Xs _ _ ho) rfl hco hgen rfl (codeRec_of Xs hcd) ?_
  rw [hbind]
  refine wpAny_bind (wpAny_alloc (wpAny_pure ?_))
  have kp : ∀ b o, s.heap.get? b = some o → (s.heap.push ({ cls := .type "tuple", data := .seq vs.toArray } : Obj)).get? b = some o := fun b o e => Heap.get?_push_of_some _ e
  refine wpAny_newFunctionEnv hcell (hloc _) (fun h₁ hns hsb => ⟨(Ts.keeps kp).nolimit.fresh _ hsb, codeAny_func ?_⟩) hk
  have hk₁ : ∀ b o, (s.heap.push ({ cls := .type "tuple", data := .seq vs.toArray } : Obj)).get? b = some o → h₁.get? b = some o := fun b o e => hsb.extBut b o (Nat.ne_of_lt (Heap.lt_size e)) (Heap.get?_push_of_some _ e)
  refine wpAny_mono (h s.heap.objs.size (s.heap.push ({ cls := .type "tuple", data := .seq vs.toArray } : Obj)) _ h₁ (Xs.keeps kp) (Ts.keeps kp) kp (Heap.get?_push_size _ rfl) ⟨hns, hk₁, Nat.le_refl _⟩ News.nil) (fun _ _ x => x) fun _ _ x => x.elim
end
end Mine
end

section
open PySem PySem.W PyProof.Rows PySem.Calls
set_option maxRecDepth 100000
namespace Mine
abbrev F0 : Value → Shared → Prop := fun _ _ => False
/-- a pair of an int and a text lies at v -/
def PairAt (h : Heap) (v : Value) (x : Int × Str) : Prop :=
  ∃ a t u, v = .ref a ∧ h.get? a = some { cls := .type "tuple", data := .seq #[.int x.1 t, .str x.2 u] }
theorem PairAt.keeps {h h' : Heap} {v : Value} {x : Int × Str} (p : PairAt h v x) (k : ∀ b o, h.get? b = some o → h'.get? b = some o) : PairAt h' v x :=
  let ⟨a, t, u, e, q⟩ := p; ⟨a, t, u, e, k _ _ q⟩
theorem not_both {h : Heap} {a : Addr} {vs : Array Value} {n : Nat} {ws : Array Value} (h1 : h.get? a = some { cls := .type "list", data := .seq vs n }) (h2 : h.get? a = some { cls := .type "tuple", data := .seq ws }) : False := by
  rw [h1] at h2
  have e : Value.type "list" = Value.type "tuple" := congrArg Obj.cls (Option.some.inj h2)
  exact absurd e (by decide)
def lexLt (x y : Int × Str) : Bool := if x.1 = y.1 then decide (x.2.cps.toList < y.2.cps.toList) else decide (x.1 < y.1)
section
variable {prog : Program} {w : World} {A : Around} {E : Value → Shared → Prop} {s : Shared}
theorem lt_pair {u v : Value} {x y : Int × Str} {Q : Value → Shared → Prop} (hu : A.units < cLine) (hx : PairAt s.heap u x) (hy : PairAt s.heap v y) (h : Q (.bool (lexLt x y)) s) :
    wpAny (model prog w) A (compareOp .Lt u v) Q E s := by
  obtain ⟨a, t1, t2, rfl, ha⟩ := hx
  obtain ⟨b, t3, t4, rfl, hb⟩ := hy
  obtain ⟨x1, x2⟩ := x
  obtain ⟨y1, y2⟩ := y
  have hTa : s.TypeIs (.ref a) "tuple" := ⟨_, ha, rfl⟩
  have hTb : s.TypeIs (.ref b) "tuple" := ⟨_, hb, rfl⟩
  show wpAny _ _ (richCompare .Lt _ _) Q E s
  refine wpAny_richCompare_same_room (op := .Lt) hTa hTb F.slot_tuple_lt (wpAny_call_entry F.slot_tuple_lt hTa F.entry_tuple_lt ?_ (F.args_tuple_lt_2 _ _)) hu
  show wpAny _ _ (isInstance (.ref b) (.type "tuple") >>= _) _ _ s
  refine wpAny_bind (wpAny_isInstance hTb isSubtype_tuple_tuple ?_)
  simp only [Bool.not_true, Bool.false_eq_true, if_false]
  refine wpAny_bind (wpAny_tupleItemsOf ha rfl ?_)
  refine wpAny_bind (wpAny_tupleItemsOf hb rfl ?_)
  refine wpAny_bind ?_
  show wpAny _ _ (forIn [(Value.int x1 t1, Value.int y1 t3), (Value.str x2 t2, Value.str y2 t4)] _ _) _ _ s
  rw [List.forIn_cons]
  refine wpAny_bind ?_
  dsimp only
  refine wpAny_bind (wpAny_eqBool_int ?_)
  by_cases e1 : x1 = y1
  · subst e1
    simp only [beq_self_eq_true, Bool.not_true, Bool.false_eq_true, if_false]
    refine wpAny_pure ?_
    dsimp only
    rw [List.forIn_cons]
    refine wpAny_bind ?_
    dsimp only
    refine wpAny_bind (wpAny_eqBool_str ?_)
    by_cases e2 : x2 = y2
    · subst e2
      simp only [decide_true, Bool.not_true, Bool.false_eq_true, if_false]
      refine wpAny_pure ?_
      dsimp only
      rw [List.forIn_nil]
      refine wpAny_pure ?_
      have hL : lexLt (x1, x2) (x1, x2) = false := by
        unfold lexLt
        simp only [if_true, decide_eq_false_iff_not]
        exact List.lt_irrefl _
      rw [hL] at h
      exact wpAny_pure ⟨.bool false, rfl, by simp, h⟩
    · simp only [e2, decide_false, Bool.not_false, if_true]
      refine wpAny_bind (wpAny_rule (wpAny_bind ?_))
      refine wpAny_mono (PyProof.Rows.lt_str (x := x2) (y := y2) (t := t2) (u := t4) (Q := fun v s' => v = .bool (lexLt (x1, x2) (x1, y2)) ∧ s' = s) (E := E) ⟨?_, rfl⟩) ?_ fun _ _ x => x
      · unfold lexLt; simp
      · rintro _ _ ⟨rfl, rfl⟩
        exact wpAny_bind (wpAny_pure (wpAny_pure (wpAny_pure (wpAny_pure ⟨_, rfl, by simp, h⟩))))
  · have e1' : (x1 == y1) = false := by simp [e1]
    simp only [e1', Bool.not_false, if_true]
    refine wpAny_bind (wpAny_rule (wpAny_bind ?_))
    refine wpAny_mono (wpAny_lt_int (a := x1) (b := y1) (t := t1) (u := t3) (Q := fun v s' => v = .bool (lexLt (x1, x2) (y1, y2)) ∧ s' = s) (E := E) ⟨?_, rfl⟩) ?_ fun _ _ x => x
    · unfold lexLt; simp [e1]
    · rintro _ _ ⟨rfl, rfl⟩
      exact wpAny_bind (wpAny_pure (wpAny_pure (wpAny_pure (wpAny_pure ⟨_, rfl, by simp, h⟩))))
end
end Mine
end

section
open PySem PySem.W PyProof.Rows PySem.Calls
set_option maxRecDepth 100000
namespace Mine
section
variable {prog : Program} {w : World} {A : Around} {s : Shared} {env : Env} {Q : Flow → Shared → Prop}

/-- a while by any state of its own -/
theorem while_ {test : PySem.Expr} {body : List Stmt} {pos : Pos} (I : Nat → Shared → Prop)
    (turn : ∀ n s, I n s → wpAny (model prog w) A (isTrue test env (eval test env)) (fun b s₂ =>
      if b = true then wpAny (model prog w) A (execs body env) (fun f s₃ => match f with
        | .next | .cont => ∃ m, m < n ∧ I m s₃
        | .brk => Q .next s₃
        | .ret v => Q (.ret v) s₃) F0 s₂ else Q .next s₂) F0 s) (n : Nat) (h : I n s) : wpAny (model prog w) A (exec (.While test body [] pos) env) Q F0 s := by
  refine wpAny_While (codeAny_whileLoop I (fun n s hI => wpAny_mono (turn n s hI) (fun b s₂ h₂ => ?_) fun _ _ x => x.elim) n h)
  cases b with
  | true =>
    simp only [if_true] at h₂ ⊢
    refine wpAny_mono h₂ (fun f s₃ h₃ => ?_) fun _ _ x => x.elim
    cases f <;> exact h₃
  | false =>
    simp only [Bool.false_eq_true, if_false] at h₂ ⊢
    exact wpAny_execs_nil h₂
end

section
variable {M : Model} {A : Around} {s : Shared} {env : Env} {Q : Flow → Shared → Prop}
/-- one statement that goes on, what it leaves said outright -/
theorem cut_ {st : Stmt} {rest : List Stmt} (P : Shared → Prop) (h1 : wpAny M A (exec st env) (fun f s' => f = .next ∧ P s') F0 s) (h2 : ∀ s', P s' → wpAny M A (execs rest env) Q F0 s') :
    wpAny M A (execs (st :: rest) env) Q F0 s := by
  refine wpAny_execs_cons (wpAny_mono h1 (fun f s' h => ?_) fun _ _ x => x.elim)
  obtain ⟨rfl, h⟩ := h
  exact h2 s' h
theorem ite_t {c : Prop} [Decidable c] {a b : Prop} (hc : c) (h : a) : if c then a else b := by rw [if_pos hc]; exact h
theorem ite_f {c : Prop} [Decidable c] {a b : Prop} (hc : ¬ c) (h : b) : if c then a else b := by rw [if_neg hc]; exact h
theorem ite_b {c : Bool} {a b : Prop} (h1 : c = true → a) (h2 : c = false → b) : if c = true then a else b := by
  cases c with
  | true => exact h1 rfl
  | false => exact h2 rfl
end

/-- the names of a frame that matter, ahead of all else -/
def bd (u : Str → Option Value) : List (Str × Value) → Str → Option Value
  | [] => u
  | (n, v) :: r => fun z => if z = n then some v else bd u r z
theorem bd_eq {m : Str → Option Value} : ∀ {ps : List (Str × Value)}, (∀ p ∈ ps, m p.1 = some p.2) → bd m ps = m
  | [], _ => rfl
  | p :: r, h => by
    funext z
    show (if z = p.1 then some p.2 else bd m r z) = m z
    rw [bd_eq fun q hq => h q (.tail _ hq)]
    by_cases e : z = p.1
    · rw [if_pos e, e]; exact (h p (.head _)).symm
    · rw [if_neg e]
def bdOk (m : Str → Option Value) : List (Str × Value) → Prop
  | [] => True
  | (n, v) :: r => m n = some v ∧ bdOk m r
theorem bdOk_all {m : Str → Option Value} : ∀ {ps : List (Str × Value)}, bdOk m ps → ∀ p ∈ ps, m p.1 = some p.2
  | [], _, _, hp => nomatch hp
  | (n, v) :: r, h, p, hp => by
    rcases List.mem_cons.mp hp with rfl | hp
    · exact h.1
    · exact bdOk_all h.2 p hp
theorem fr_bd {g h : Heap} {L : Addr} {m : Str → Option Value} (F : Fr g L h m) (ps : List (Str × Value)) (hp : bdOk m ps) : Fr g L h (bd m ps) := by
  rw [bd_eq (bdOk_all hp)]; exact F

section
variable {prog : Program} {w : World} {A : Around} {E : Value → Shared → Prop} {s : Shared} {h₀ : Heap} {L D : Addr} {m : Str → Option Value} {news news' : List (Addr × Obj)}
theorem item_at {value slice : PySem.Expr} {items : Array Value} {k : Int} {t : Tok} {v : Value} {Q : Value → Shared → Prop}
    (hl : s.heap.IsList D items) (h0 : 0 ≤ k) (hhi : k < 2 ^ 63) (hx : items[k.toNat]? = some v) (h : Q v s)
    (hs : subscripted slice false (.ref D) (.int k t) = operate [.ref D, .int k t] (getItem (.ref D) (.int k t)) := by with_unfolding_all rfl) :
    wpAny (model prog w) A (subscriptTail value slice (.ref D) (.int k t)) Q E s :=
  tail_any hl.typeIs slot_list_getitem.lookup (wpAny_getItem_list hl h0 hhi hx h) hs

theorem set_at {items : Array Value} {n : Nat} {k : Int} {t : Tok} {v : Value} {Q : Unit → Shared → Prop} (F : Fr h₀ L s.heap m) (N : News h₀ L s.heap news)
    (U : Upd D (listOf items n) (listOf (items.setIfInBounds k.toNat v) n) news news') (h0 : 0 ≤ k) (hfit : k < 2 ^ 63) (hn : k < items.size)
    (h : ∀ h', Fr h₀ L h' m → News h₀ L h' news' → Q () { s with heap := h' }) : wpAny (model prog w) A (setItem (.ref D) (.int k t) v) Q E s := by
  obtain ⟨pre, post, rfl, rfl, a, b⟩ := U.split
  have z := N (D, listOf items n) (List.mem_append.mpr (.inr (.head _)))
  exact ki_setAt z.1 h0 hfit hn (h _ (F.change (Heap.SameBut.update ..) z.2.1 z.2.2) (ki_turn _ N a b rfl (by simp)))
theorem list_of {items : Array Value} {n : Nat} {h : Heap} (N : News h₀ L h news) (hm : (D, listOf items n) ∈ news) : h.IsList D items := PySem.IsL.isList (n := n) (N _ hm).1

/-- behind a call that changed the one object D -/
theorem behind {h h' : Heap} {o o' : Obj} (F : Fr h₀ L h m) (N : News h₀ L h news) (U : Upd D o o' news news') (ext : ∀ b x, b ≠ D → h.get? b = some x → h'.get? b = some x) (ho : h'.get? D = some o') :
    Fr h₀ L h' m ∧ News h₀ L h' news' := by
  obtain ⟨pre, post, rfl, rfl, a, b⟩ := U.split
  have z := N (D, o) (List.mem_append.mpr (.inr (.head _)))
  obtain ⟨oL, a1, a2, hoL, a3⟩ := F.ns
  refine ⟨⟨⟨oL, a1, a2, ext _ _ z.2.1.symm hoL, a3⟩, fun c x e => ext c x ?_ (F.keep c x e), F.above⟩, fun p hp => ?_⟩
  · rintro rfl
    rw [z.2.2] at e; cases e
  · rcases List.mem_append.mp hp with q | q
    · have P := N p (List.mem_append_left _ q)
      exact ⟨ext _ _ (a p q) P.1, P.2⟩
    · rcases List.mem_cons.mp q with rfl | q
      · exact ⟨ho, z.2⟩
      · have P := N p (List.mem_append_right _ (.tail _ q))
        exact ⟨ext _ _ (b p q) P.1, P.2⟩
/-- behind a call that changed nothing and handed back a new object -/
theorem behindN {h h' : Heap} {o : Obj} (F : Fr h₀ L h m) (N : News h₀ L h news) (ext : ∀ b x, h.get? b = some x → h'.get? b = some x) (hD : h'.get? D = some o) (hf : h.get? D = none) :
    Fr h₀ L h' m ∧ News h₀ L h' ((D, o) :: news) ∧ D ≠ L := by
  have hL : D ≠ L := by
    rintro rfl
    obtain ⟨oL, _, _, hoL, _⟩ := F.ns
    rw [hf] at hoL; cases hoL
  refine ⟨⟨F.ns.keeps ext, fun c x e => ext c x (F.keep c x e), F.above⟩, fun p hp => ?_, hL⟩
  rcases List.mem_cons.mp hp with rfl | hp
  · refine ⟨hD, hL, ?_⟩
    cases q : h₀.get? D with
    | none => rfl
    | some x => have := F.keep _ _ q; rw [hf] at this; cases this
  · exact ⟨ext _ _ (N p hp).1, (N p hp).2⟩
/-- behind a call that changed nothing -/
theorem behind0 {h h' : Heap} (F : Fr h₀ L h m) (N : News h₀ L h news) (ext : ∀ b x, h.get? b = some x → h'.get? b = some x) : Fr h₀ L h' m ∧ News h₀ L h' news :=
  ⟨⟨F.ns.keeps ext, fun c x e => ext c x (F.keep c x e), F.above⟩, fun p hp => ⟨ext _ _ (N p hp).1, (N p hp).2⟩⟩
end
end Mine
end

section
open PySem PySem.W PyProof.Rows PySem.Calls
set_option maxRecDepth 100000
namespace Mine
/-- what a loop's turn leaves: the frame and the ledger, the iterator as it was -/
def TurnEnd (g : Heap) (L I : Addr) (io : Obj) (J : (Str → Option Value) → List (Addr × Obj) → Prop) (s₀ s : Shared) : Prop :=
  ∃ h tk m news, s = { s₀ with heap := h, toks := tk } ∧ Fr g L h m ∧ News g L h ((I, io) :: news) ∧ (∀ p ∈ news, p.1 ≠ I) ∧ J m news
section
variable {prog : Program} {w : World} {A : Around} {s : Shared} {env : Env} {Q : Flow → Shared → Prop} {g : Heap}
theorem loop_ {target : PySem.Expr} {body : List Stmt} {I : Addr} {fp : List Addr} {n : Nat} {P : Nat → Value → Prop} {Iter : Nat → Heap → Prop} {Seq : Heap → Prop} {m₀ : Str → Option Value} {news₀ : List (Addr × Obj)}
    (J : Nat → (Str → Option Value) → List (Addr × Obj) → Prop) (R : Result → Shared → Prop)
    (W : Walks prog w A I fp [I] n P (fun i h => Iter i h ∧ Seq h))
    (hIt : ∀ i h h', Iter i h → (∀ o, h.get? I = some o → h'.get? I = some o) → Iter i h') (hex : ∀ i h, Iter i h → ∃ o, h.get? I = some o)
    (hSeq : ∀ i m news h, J i m news → Fr g env.locals h m → News g env.locals h news → Seq h)
    (hLI : env.locals ≠ I) (hgI : g.get? I = none)
    (hgo : ∀ i v (s' : Shared) (Q' : Unit → Shared → Prop), Iter i s'.heap → Q' () s' → wpAny (model prog w) A (letOwnedTupleGo target (.ref I) v) Q' F0 s')
    (h0 : Iter 0 s.heap) (F : Fr g env.locals s.heap m₀) (N : News g env.locals s.heap news₀) (hnI : ∀ p ∈ news₀, p.1 ≠ I) (hJ : J 0 m₀ news₀)
    (turn : ∀ i v m news h tk io, i < n → P i v → J i m news → Fr g env.locals h m → News g env.locals h ((I, io) :: news) → (∀ p ∈ news, p.1 ≠ I) →
      wpAny (model prog w) A (assign target env v) (fun _ s₂ => wpAny (model prog w) A (execs body env) (fun f s₃ => match f with
        | .next | .cont => TurnEnd g env.locals I io (J (i + 1)) s s₃
        | .brk => R (.ok .next) s₃
        | .ret v => R (.ok (.ret v)) s₃) F0 s₂) F0 { s with heap := h, toks := tk })
    (done : ∀ m news h tk, J n m news → Fr g env.locals h m → News g env.locals h news → R (.ok .next) { s with heap := h, toks := tk }) :
    codeAny (model prog w) A (.forLoop target (.ref I) body [] env) R s := by
  have keepF : ∀ {h h' : Heap} {m : Str → Option Value}, Fr g env.locals h m → (∀ b o, b ∉ [I] → h.get? b = some o → h'.get? b = some o) → Fr g env.locals h' m := fun {h h' m} F k => by
    obtain ⟨oL, a1, a2, hoL, a3⟩ := F.ns
    refine ⟨⟨oL, a1, a2, k _ _ (by simpa using hLI) hoL, a3⟩, fun b x e => k b x ?_ (F.keep b x e), F.above⟩
    intro hb
    obtain rfl : b = I := by simpa using hb
    rw [hgI] at e; cases e
  have keepN : ∀ {h h' : Heap} {news : List (Addr × Obj)}, News g env.locals h news → (∀ p ∈ news, p.1 ≠ I) → (∀ b o, b ∉ [I] → h.get? b = some o → h'.get? b = some o) → News g env.locals h' news := fun N hn k p hp =>
    ⟨k _ _ (by simpa using hn p hp) (N p hp).1, (N p hp).2⟩
  refine codeAny_forLoop_any (fun k s' => ∃ h tk m news i, s' = { s with heap := h, toks := tk } ∧ Iter i h ∧ Fr g env.locals h m ∧ News g env.locals h news ∧ (∀ p ∈ news, p.1 ≠ I) ∧ J i m news ∧ i ≤ n ∧ k = n + 1 - i) ?_ (n + 1)
    ⟨s.heap, s.toks, m₀, news₀, 0, rfl, h0, F, N, hnI, hJ, Nat.zero_le _, rfl⟩
  rintro k s' ⟨h, tk, m, news, i, rfl, hi0, F₁, N₁, hn₁, J₁, hin, rfl⟩
  have hS := hSeq i m news h J₁ F₁ N₁
  by_cases hlt : i < n
  · refine W.item i _ _ _ hlt ⟨hi0, hS⟩ fun v h' tk' hP hst hk => ?_
    obtain ⟨io, hio⟩ := hex _ _ hst.1
    have F₂ := keepF F₁ hk
    have N₂ := keepN N₁ hn₁ hk
    have N₃ : News g env.locals h' ((I, io) :: news) := fun p hp => by
      rcases List.mem_cons.mp hp with rfl | hp
      · exact ⟨hio, hLI.symm, hgI⟩
      · exact N₂ p hp
    refine wpAny_mono (hgo _ _ _ _ hst.1 (wpAny_mono (turn i v m news h' tk' io hlt hP J₁ F₂ N₃ hn₁) (fun _ s₂ h₂ => wpAny_mono h₂ (fun f s₃ h₃ => ?_) fun _ _ x => x.elim) fun _ _ x => x.elim)) (fun _ _ x => x) fun _ _ x => x.elim
    have fin : TurnEnd g env.locals I io (J (i + 1)) s s₃ → ∃ m', m' < n + 1 - i ∧ ∃ h tk m news i, s₃ = { s with heap := h, toks := tk } ∧ Iter i h ∧ Fr g env.locals h m ∧ News g env.locals h news ∧ (∀ p ∈ news, p.1 ≠ I) ∧ J i m news ∧ i ≤ n ∧ m' = n + 1 - i := by
      rintro ⟨h3, tk3, m3, news3, rfl, F3, N3, hn3, J3⟩
      refine ⟨n + 1 - (i + 1), by omega, h3, tk3, m3, news3, i + 1, rfl, hIt _ _ _ hst.1 fun o e => ?_, F3, fun p hp => N3 p (.tail _ hp), hn3, J3, hlt, rfl⟩
      rw [hio] at e
      cases e
      exact (N3 _ (.head _)).1
    cases f with
    | next => exact fin h₃
    | cont => exact fin h₃
    | brk => exact h₃
    | ret v => exact h₃
  · obtain rfl : i = n := by omega
    refine W.done _ _ _ ⟨hi0, hS⟩ fun h' tk' hk => ?_
    exact wpAny_execs_nil (done m news h' tk' J₁ (keepF F₁ hk) (keepN N₁ hn₁ hk))

theorem letGo_name {x : Str} {px : Pos} {it v : Value} {s' : Shared} {Q' : Unit → Shared → Prop} (h : Q' () s') : wpAny (model prog w) A (letOwnedTupleGo (.Name x px) it v) Q' F0 s' := wpAny_pure h
theorem letGo_list {target : PySem.Expr} {I t : Addr} {i : Nat} {v : Value} {Q' : Unit → Shared → Prop} {s' : Shared} (hit : s'.heap.IsListIter I t i) (h : Q' () s') :
    wpAny (model prog w) A (letOwnedTupleGo target (.ref I) v) Q' F0 s' := by
  obtain ⟨o, ho, hc, hd⟩ := hit
  unfold letOwnedTupleGo
  cases target <;> first
    | exact wpAny_pure h
    | (cases v <;> first
        | exact wpAny_pure h
        | (refine wpAny_bind (wpAny_load ho ?_)
           rw [hc, hd]
           exact wpAny_pure h))

abbrev LoopQ (Q : Flow → Shared → Prop) (M : Model) (A : Around) (env : Env) : Result → Shared → Prop := fun r s' => match r with | .ok f => Q f s' | .error e => cameBackBy M A env F0 e s'

/-- over a list that stands while the loop goes -/
theorem iter_list {target : PySem.Expr} {body : List Stmt} {l : Addr} {items : Array Value} {m₀ : Str → Option Value} {news₀ : List (Addr × Obj)} (J : Nat → (Str → Option Value) → List (Addr × Obj) → Prop)
    (hh : A.handled = none) (F : Fr g env.locals s.heap m₀) (N : News g env.locals s.heap news₀)
    (hSeq : ∀ i m news h, J i m news → Fr g env.locals h m → News g env.locals h news → h.IsList l items) (hJ : J 0 m₀ news₀)
    (turn : ∀ i v m news h tk I io, (∀ p ∈ news₀, p.1 < I) → items[i]? = some v → J i m news → Fr g env.locals h m → News g env.locals h ((I, io) :: news) → (∀ p ∈ news, p.1 ≠ I) →
      wpAny (model prog w) A (assign target env v) (fun _ s₂ => wpAny (model prog w) A (execs body env) (fun f s₃ => match f with
        | .next | .cont => TurnEnd g env.locals I io (J (i + 1)) s s₃
        | .brk => Q .next s₃
        | .ret v => Q (.ret v) s₃) F0 s₂) F0 { s with heap := h, toks := tk })
    (done : ∀ m news h tk, J items.size m news → Fr g env.locals h m → News g env.locals h news → Q .next { s with heap := h, toks := tk }) :
    wpAny (model prog w) A (pyIter (.ref l)) (fun it s₂ => codeAny (model prog w) A (.forLoop target it body [] env) (LoopQ Q (model prog w) A env) s₂) F0 s := by
  have hl := hSeq _ _ _ _ hJ F N
  obtain ⟨ol, hol, _⟩ := id hl
  have hlt : l < s.heap.objs.size := Heap.lt_size hol
  refine wpAny_pyIter_list hl ?_
  refine loop_ J _ (Walks.list hh s.heap.objs.size l (Nat.ne_of_lt hlt) items) (fun i h h' x e => x.at e) (fun i h x => let ⟨o, ho, _⟩ := x; ⟨o, ho⟩) hSeq (Nat.ne_of_lt F.ns.lt) (next_is_new F)
    (fun i v s' Q' x h => letGo_list x h) ⟨_, Heap.get?_push_size _ rfl, rfl, rfl⟩ (F.push _) (fun p hp => ⟨Heap.get?_push_of_some _ (N p hp).1, (N p hp).2⟩) (fun p hp => Nat.ne_of_lt (Heap.lt_size (N p hp).1)) hJ
    (fun i v m news h tk io hi hP hj F' N' hn => turn i v m news h tk _ io (fun p hp => Heap.lt_size (N p hp).1) hP hj F' N' hn) (fun m news h tk hj F' N' => done m news h tk hj F' N')

/-- over a tuple that stands -/
theorem iter_tuple {target : PySem.Expr} {body : List Stmt} {l : Addr} {items : Array Value} {m₀ : Str → Option Value} {news₀ : List (Addr × Obj)} (J : Nat → (Str → Option Value) → List (Addr × Obj) → Prop)
    (hh : A.handled = none) (F : Fr g env.locals s.heap m₀) (N : News g env.locals s.heap news₀)
    (hSeq : ∀ i m news h, J i m news → Fr g env.locals h m → News g env.locals h news → h.IsTuple l items) (hJ : J 0 m₀ news₀)
    (turn : ∀ i v m news h tk I io, (∀ p ∈ news₀, p.1 < I) → items[i]? = some v → J i m news → Fr g env.locals h m → News g env.locals h ((I, io) :: news) → (∀ p ∈ news, p.1 ≠ I) →
      wpAny (model prog w) A (assign target env v) (fun _ s₂ => wpAny (model prog w) A (execs body env) (fun f s₃ => match f with
        | .next | .cont => TurnEnd g env.locals I io (J (i + 1)) s s₃
        | .brk => Q .next s₃
        | .ret v => Q (.ret v) s₃) F0 s₂) F0 { s with heap := h, toks := tk })
    (done : ∀ m news h tk, J items.size m news → Fr g env.locals h m → News g env.locals h news → Q .next { s with heap := h, toks := tk }) :
    wpAny (model prog w) A (pyIter (.ref l)) (fun it s₂ => codeAny (model prog w) A (.forLoop target it body [] env) (LoopQ Q (model prog w) A env) s₂) F0 s := by
  have hl := hSeq _ _ _ _ hJ F N
  obtain ⟨ol, hol, _⟩ := id hl
  have hlt : l < s.heap.objs.size := Heap.lt_size hol
  refine wpAny_pyIter_tuple hl ?_
  refine loop_ J _ (Walks.tuple hh s.heap.objs.size l (Nat.ne_of_lt hlt) items) (fun i h h' x e => x.at e) (fun i h x => let ⟨o, ho, _⟩ := x; ⟨o, ho⟩) hSeq (Nat.ne_of_lt F.ns.lt) (next_is_new F)
    (fun i v s' Q' x h => letGo_tupleiter x h) ⟨_, Heap.get?_push_size _ rfl, rfl, rfl⟩ (F.push _) (fun p hp => ⟨Heap.get?_push_of_some _ (N p hp).1, (N p hp).2⟩) (fun p hp => Nat.ne_of_lt (Heap.lt_size (N p hp).1)) hJ
    (fun i v m news h tk io hi hP hj F' N' hn => turn i v m news h tk _ io (fun p hp => Heap.lt_size (N p hp).1) hP hj F' N' hn) (fun m news h tk hj F' N' => done m news h tk hj F' N')

/-- over range(n) -/
theorem iter_range {x : Str} {px : Pos} {body : List Stmt} {r : Addr} {b : Int} {t₁ t₂ t₃ : Tok} {n : Nat} {m₀ : Str → Option Value} {news₀ : List (Addr × Obj)} (J : Nat → (Str → Option Value) → List (Addr × Obj) → Prop)
    (hh : A.handled = none) (hr : IsRange s.heap r 0 b 1 t₁ t₂ t₃) (hsmall : Builtin.Range.small 0 b 1 = true) (hsz : Builtin.Range.rangeSize 0 b 1 = (n : Int)) (F : Fr g env.locals s.heap m₀) (N : News g env.locals s.heap news₀)
    (hJ : J 0 m₀ news₀)
    (turn : ∀ (i : Nat) t m news h tk I io, (∀ p ∈ news₀, p.1 < I) → i < n → J i m news → Fr g env.locals h m → News g env.locals h ((I, io) :: news) → (∀ p ∈ news, p.1 ≠ I) →
      wpAny (model prog w) A (assign (.Name x px) env (.int i t)) (fun _ s₂ => wpAny (model prog w) A (execs body env) (fun f s₃ => match f with
        | .next | .cont => TurnEnd g env.locals I io (J (i + 1)) s s₃
        | .brk => Q .next s₃
        | .ret v => Q (.ret v) s₃) F0 s₂) F0 { s with heap := h, toks := tk })
    (done : ∀ m news h tk, J n m news → Fr g env.locals h m → News g env.locals h news → Q .next { s with heap := h, toks := tk }) :
    wpAny (model prog w) A (pyIter (.ref r)) (fun it s₂ => codeAny (model prog w) A (.forLoop (.Name x px) it body [] env) (LoopQ Q (model prog w) A env) s₂) F0 s := by
  refine wpAny_pyIter_range hr hsmall ?_
  have W := Walks.range (prog := prog) (w := w) hh s.heap.objs.size 0 1 n
  have W' : Walks prog w A s.heap.objs.size [s.heap.objs.size] [s.heap.objs.size] n (fun i v => ∃ t, v = .int (0 + (i : Int) * 1) t)
      (fun i h => IsRangeIter h s.heap.objs.size ((0 : Int) + (i : Nat) * 1) ((n : Int) - (i : Nat)) 1 ∧ True) :=
    ⟨W.sub, fun i h h' st hk => ⟨W.frame i h h' st.1 hk, trivial⟩, fun i s' Q' E' hi st hQ => W.item i s' Q' E' hi st.1 fun v h' tk hP hst hk => hQ v h' tk hP ⟨hst, trivial⟩ hk,
      fun s' Q' E' st hQ => W.done s' Q' E' st.1 hQ, fun i s' Q' E' st hQ => W.self i s' Q' E' st.1 hQ⟩
  refine loop_ J _ W' (fun i h h' x e => e _ x) (fun i h x => ⟨_, x⟩) (fun _ _ _ _ _ _ _ => trivial) (Nat.ne_of_lt F.ns.lt) (next_is_new F)
    (fun i v s' Q' x h => letGo_name h) ?_ (F.push _) (fun p hp => ⟨Heap.get?_push_of_some _ (N p hp).1, (N p hp).2⟩) (fun p hp => Nat.ne_of_lt (Heap.lt_size (N p hp).1)) hJ
    (fun i v m news h tk io hi hP hj F' N' hn => ?_) (fun m news h tk hj F' N' => done m news h tk hj F' N')
  · have e1 : (0 : Int) + ((0 : Nat) : Int) * 1 = 0 := rfl
    have e2 : (n : Int) - ((0 : Nat) : Int) = Builtin.Range.rangeSize 0 b 1 := by rw [hsz]; simp
    rw [e1, e2]
    exact Heap.get?_push_size _ rfl
  · obtain ⟨t, rfl⟩ := hP
    have e : (0 : Int) + (i : Int) * 1 = (i : Int) := by omega
    rw [e]
    exact turn i t m news h tk _ io (fun p hp => Heap.lt_size (N p hp).1) hi hj F' N' hn
theorem try_ {body orelse : List Stmt} {h₀ : ExceptHandler} {hs : List ExceptHandler} {pos : Pos}
    (h : wpAny (model prog w) A (execs body env) (fun f s₁ => match f with | .next => wpAny (model prog w) A (execs orelse env) Q F0 s₁ | f => Q f s₁) F0 s) :
    wpAny (model prog w) A (exec (.Try body (h₀ :: hs) orelse [] pos) env) Q F0 s :=
  wpAny_Try_except (wpAny_mono h (fun _ _ x => x) fun _ _ x => x.elim)
end
structure Hid (P : Prop) : Prop where
  out : P
section
variable {prog : Program} {w : World} {A : Around} {E : Value → Shared → Prop} {s : Shared} {x y : Str} {t u : Tok} {h₀ : Heap} {L : Addr} {m : Str → Option Value} {news : List (Addr × Obj)} {Q : Value → Shared → Prop}
theorem split_at (F : Fr h₀ L s.heap m) (N : News h₀ L s.heap news) (hy : (y.length == 0) = false) (hsz : x.length ≤ 1000000)
    (h : ∀ lc vs h' k, StrsAre vs (Txt.split x y) → (∀ q ∈ news, q.1 < lc) → Fr h₀ L h' m → News h₀ L h' ((lc, listOf vs.toArray 0) :: news) → Q (.ref lc) { s with heap := h', toks := k }) :
    wpAny (model prog w) A (call (.builtin "str.split") [.str x t, .str y u]) Q E s :=
  splitN1A F N hy (fun l h' k e S _ _ F' N' => h _ _ h' k (e ▸ S) (fun q hq => Heap.lt_size (N q hq).1) F' N') (by rw [sizeLine_eq]; omega)
end
section
variable {prog : Program} {w : World} {A : Around} {E : Value → Shared → Prop} {s : Shared} {D : Addr}
theorem item_last {value slice : PySem.Expr} {items : Array Value} {t : Tok} {v : Value} {Q : Value → Shared → Prop}
    (hl : s.heap.IsList D items) (hz : items.size < 1000000) (hx : items[items.size - 1]? = some v) (h : Q v s)
    (hs : subscripted slice false (.ref D) (.int (-1) t) = operate [.ref D, .int (-1) t] (getItem (.ref D) (.int (-1) t)) := by with_unfolding_all rfl) :
    wpAny (model prog w) A (subscriptTail value slice (.ref D) (.int (-1) t)) Q E s := by
  have h0 : 0 < items.size := by
    have := (Array.getElem?_eq_some_iff.mp hx).1
    omega
  refine tail_any hl.typeIs slot_list_getitem.lookup (wpAny_getItem_list_neg hl (by omega) (by omega) (by omega) ?_ h) hs
  rw [← hx]
  congr 1
  omega
end
section
variable {prog : Program} {w : World} {A : Around} {s : Shared} {env : Env} {Q : Flow → Shared → Prop}
/-- the count of tokens never falls: an if, a statement with that told -/
theorem ifT {test : PySem.Expr} {body orelse : List Stmt} {pos : Pos} (ht : 1 ≤ s.toks)
    (h : wpAny (model prog w) A (isTrue test env (eval test env)) (fun b s₂ => 1 ≤ s₂.toks → if b = true then wpAny (model prog w) A (execs body env) Q F0 s₂ else wpAny (model prog w) A (execs orelse env) Q F0 s₂) F0 s) :
    wpAny (model prog w) A (exec (.If test body orelse pos) env) Q F0 s :=
  wpAny_If (wpAny_with_toks ht (wpAny_mono h (fun _ _ x => x) fun _ _ x => x.elim))
theorem cutT_ {st : Stmt} {rest : List Stmt} (P : Shared → Prop) (ht : 1 ≤ s.toks) (h1 : wpAny (model prog w) A (exec st env) (fun f s' => f = .next ∧ P s') F0 s) (h2 : ∀ s', P s' → 1 ≤ s'.toks → wpAny (model prog w) A (execs rest env) Q F0 s') :
    wpAny (model prog w) A (execs (st :: rest) env) Q F0 s := by
  refine wpAny_execs_cons (wpAny_mono (wpAny_toks_of ht h1) (fun f s' h => ?_) fun _ _ x => x.2.elim)
  obtain ⟨h0, rfl, h⟩ := h
  exact h2 s' h h0
theorem wpT {α : Type} {t : Sem α} {Q : α → Shared → Prop} (ht : 1 ≤ s.toks) (h : wpAny (model prog w) A t (fun a s' => 1 ≤ s'.toks → Q a s') F0 s) : wpAny (model prog w) A t Q F0 s :=
  wpAny_with_toks ht (wpAny_mono h (fun _ _ x => x) fun _ _ x => x.elim)
end
end Mine
end

section
open PySem PySem.W PyProof.Rows PySem.Calls
set_option maxRecDepth 100000
namespace Mine
theorem kind_nested : builtinKind "issubclass.nested" = none := by decide +kernel
theorem plain_nested : plainId "issubclass.nested" = true := by decide +kernel
theorem args_nested (a b c : Value) : argsOk "issubclass.nested" ⟨[a, b, c], []⟩ := by unfold argsOk; kernel_rfl
theorem type_str : typeOf (.type "str") = pure (.type "type") := by rfl
theorem sub_str : isSubtype (.type "str") (.type "str") = pure true := by rw [isSubtype_type]; kernel_rfl
section
variable {prog : Program} {w : World} {A : Around} {E : Value → Shared → Prop} {s : Shared}
theorem nested_str {k : Value} {dep : Int} {tk : Tok} {Q : Fin → Shared → Prop} (hk : k = .int dep tk) (hq : Q (.done (.ret (.bool true))) s) :
    wpAny (model prog w) A (Builtin.«issubclass.nested» ⟨[.type "str", .type "str", k], []⟩) Q E s := by
  subst hk
  have hm := type_str
  have hself := sub_str
  repeat (any_goals (first | assumption | (rw [if_pos hm]) | (rw [hself]) | wp_step))
theorem meets_str (dep : Int) (tk : Tok) : Meets (Builtin.«issubclass.nested» ⟨[.type "str", .type "str", .int dep tk], []⟩) (fun _ R s => R (.ok (.ret (.bool true))) s) :=
  fun _ _ _ _ _ hs => nested_str rfl hs
theorem nested_tup {tp : Addr} {c : Value} {cs : List Value} {tk : Tok} {Q : Fin → Shared → Prop} (htp : s.heap.get? tp = some { cls := .type "tuple", data := .seq cs.toArray }) (hcs : cs = [.type "str", c])
    (hq : ∀ tk', Q (.done (.ret (.bool true))) { s with toks := tk' }) : wpAny (model prog w) A (Builtin.«issubclass.nested» ⟨[.type "str", .ref tp, .int 0 tk], []⟩) Q E s := by
  obtain ⟨h, g, d, t, os⟩ := s
  have hT2 : (⟨h, g, d, t, os⟩ : Shared).TypeIs (.ref tp) "tuple" := ⟨_, htp, rfl⟩
  have f1 := F.isi_sub_tuple
  repeat (any_goals (first | assumption | wp_step))
  refine wpAny_arrayLoop ?_
  subst hcs
  simp only [Option.getD_some, List.toList_toArray]
  rw [List.forIn_cons]
  refine wpAny_bind (wpAny_bind (call_function_meets kind_nested plain_nested F.entry_issubclass_nested (args_nested _ _ _) (meets_str _ _) ?_))
  refine wpAny_bind (m := truthy (.bool true)) (wpAny_pure ?_)
  simp only [if_true]
  repeat (any_goals (first | assumption | wp_step))
  exact hq _
theorem issub_pair {tp : Addr} {c : Value} {Q : Value → Shared → Prop} (htp : s.heap.get? tp = some { cls := .type "tuple", data := .seq #[.type "str", c] }) (h : ∀ tk', Q (.bool true) { s with toks := tk' }) :
    wpAny (model prog w) A (call (.builtin "issubclass") [.type "str", .ref tp]) Q E s := by
  refine call_issubclass (S := fun _ R s => s.heap.get? tp = some { cls := .type "tuple", data := .seq #[.type "str", c] } ∧ ∀ tk', R (.ok (.ret (.bool true))) { s with toks := tk' }) (fun _ _ _ _ _ hs => issubclass_outer (nested_tup (cs := [.type "str", c]) hs.1 rfl hs.2)) ⟨htp, h⟩
end
end Mine
end

section
/-! the heap's own mathematics: no program in sight -/
namespace Mine
section
variable {α : Type} (le : α → α → Prop)
/-- parent's key at most the child's, at all places but those that `bad` tells -/
def HeapBut (bad : Nat → Prop) (ws : Array α) : Prop := ∀ i x y, 0 < i → ¬ bad i → ws[i]? = some x → ws[(i - 1) / 2]? = some y → le y x
/-- a heap but that the place p may be less than its parent; what is under p is at least p's parent -/
structure HeapUp (p : Nat) (ws : Array α) : Prop where
  but : HeapBut le (fun i => i = p) ws
  skip : ∀ i x y, 0 < p → (i - 1) / 2 = p → 0 < i → ws[i]? = some x → ws[(p - 1) / 2]? = some y → le y x
def IsHeap (ws : Array α) : Prop := HeapBut le (fun _ => False) ws
structure HeapDown (p : Nat) (ws : Array α) : Prop where
  but : HeapBut le (fun i => i = p ∨ (0 < i ∧ (i - 1) / 2 = p)) ws
  skip : ∀ i x y, 0 < p → (i - 1) / 2 = p → 0 < i → ws[i]? = some x → ws[(p - 1) / 2]? = some y → le y x
variable {le}
theorem HeapUp.done0 {ws : Array α} (h : HeapUp le 0 ws) : IsHeap le ws := fun i x y hi _ hx hy => h.but i x y hi (by omega) hx hy
theorem HeapUp.done {ws : Array α} {p : Nat} {x y : α} (h : HeapUp le p ws) (hx : ws[p]? = some x) (hy : ws[(p - 1) / 2]? = some y) (hle : le y x) : IsHeap le ws := fun i a b hi _ ha hb => by
  by_cases e : i = p
  · subst e
    rw [hx] at ha; rw [hy] at hb
    cases ha; cases hb; exact hle
  · exact h.but i a b hi e ha hb
theorem swap_get {ws : Array α} {i j k : Nat} (hi : i < ws.size) (hj : j < ws.size) : (ws.swap i j hi hj)[k]? = if k = i then ws[j]? else if k = j then ws[i]? else ws[k]? := by
  rw [Array.getElem?_swap]
  by_cases h1 : k = i
  · subst h1
    by_cases h2 : j = k
    · subst h2; simp
    · simp [h2, hj]
  · by_cases h2 : k = j
    · subst h2; simp [hi, h1]
    · simp [h1, h2, Ne.symm h1, Ne.symm h2]

theorem HeapUp.step {ws : Array α} {p : Nat} {x y : α} (tr : ∀ a b c, le a b → le b c → le a c) (h : HeapUp le p ws) (hp : 0 < p) (hs : p < ws.size) (hx : ws[p]? = some x) (hy : ws[(p - 1) / 2]? = some y) (hle : le x y) :
    HeapUp le ((p - 1) / 2) (ws.swap p ((p - 1) / 2) hs (by omega)) := by
  have hq : (p - 1) / 2 < ws.size := by omega
  have hne : (p - 1) / 2 ≠ p := by omega
  constructor
  · intro i a b hi hb ha hb'
    rw [swap_get] at ha hb'
    by_cases e1 : i = p
    · subst e1
      simp only [if_true] at ha
      rw [hy] at ha; cases ha
      simp only [hne, if_false, if_true] at hb'
      rw [hx] at hb'; cases hb'
      exact hle
    · simp only [e1, hb, if_false] at ha
      by_cases e2 : (i - 1) / 2 = p
      · simp only [e2, if_true] at hb'
        exact h.skip i a b hp e2 hi ha hb'
      · simp only [e2, if_false] at hb'
        by_cases e3 : (i - 1) / 2 = (p - 1) / 2
        · simp only [e3, if_true] at hb'
          rw [hx] at hb'; cases hb'
          exact tr _ _ _ hle (h.but i a y hi e1 ha (by rw [e3]; exact hy))
        · simp only [e3, if_false] at hb'
          exact h.but i a b hi e1 ha hb'
  · intro i a b hq0 hi0 hi ha hb
    rw [swap_get] at ha hb
    have e3 : ((p - 1) / 2 - 1) / 2 ≠ p := by omega
    have e4 : ((p - 1) / 2 - 1) / 2 ≠ (p - 1) / 2 := by omega
    simp only [e3, e4, if_false] at hb
    have hyb : le b y := h.but _ y b hq0 hne hy hb
    by_cases e1 : i = p
    · subst e1
      simp only [if_true] at ha
      rw [hy] at ha; cases ha
      exact hyb
    · have e2 : i ≠ (p - 1) / 2 := by omega
      simp only [e1, e2, if_false] at ha
      exact tr _ _ _ hyb (h.but i a y hi e1 ha (by rw [hi0]; exact hy))

/-- the least lies at the top -/
theorem IsHeap.top (rf : ∀ a, le a a) (tr : ∀ a b c, le a b → le b c → le a c) {ws : Array α} (h : IsHeap le ws) {x : α} (hx : ws[0]? = some x) : ∀ (i : Nat) (y : α), ws[i]? = some y → le x y := by
  intro i
  induction i using Nat.strongRecOn with
  | ind i ih =>
    intro y hy
    by_cases e : i = 0
    · subst e; rw [hx] at hy; cases hy; exact rf x
    · have hlt : i < ws.size := by
        rcases Nat.lt_or_ge i ws.size with h | h
        · exact h
        · rw [Array.getElem?_eq_none h] at hy; cases hy
      have hp : (i - 1) / 2 < ws.size := by omega
      have hz : ws[(i - 1) / 2]? = some ws[(i - 1) / 2] := Array.getElem?_eq_getElem hp
      exact tr _ _ _ (ih _ (by omega) _ hz) (h i y _ (by omega) (fun f => f) hy hz)

/-- a new item at the end -/
theorem IsHeap.push {ws : Array α} (h : IsHeap le ws) (x : α) : HeapUp le ws.size (ws.push x) := by
  constructor
  · intro i a b hi hb ha hb'
    rw [Array.getElem?_push] at ha hb'
    simp only [hb, if_false] at ha
    have : (i - 1) / 2 ≠ ws.size := by
      intro e
      rw [Array.getElem?_eq_none (by omega)] at ha; cases ha
    simp only [this, if_false] at hb'
    exact h i a b hi (fun f => f) ha hb'
  · intro i a b h0 hi0 hi ha hb
    rw [Array.getElem?_push] at ha
    have : i ≠ ws.size := by omega
    simp only [this, if_false] at ha
    rw [Array.getElem?_eq_none (by omega)] at ha; cases ha

theorem IsHeap.pre {ws : Array α} {x : α} (h : IsHeap le (ws.push x)) : IsHeap le ws := fun i a b hi _ ha hb => by
  have h1 : i < ws.size := (Array.getElem?_eq_some_iff.mp ha).1
  have h2 : (i - 1) / 2 < ws.size := (Array.getElem?_eq_some_iff.mp hb).1
  refine h i a b hi (fun f => f) ?_ ?_
  · rw [Array.getElem?_push, if_neg (by omega)]; exact ha
  · rw [Array.getElem?_push, if_neg (by omega)]; exact hb
/-- the top out, the last in its place -/
theorem top_out {ws : Array α} {x y : α} (h0 : ws[0]? = some x) : ((ws.setIfInBounds 0 y).push x).Perm (ws.push y) := by
  have h1 : 0 < ws.size := (Array.getElem?_eq_some_iff.mp h0).1
  have e : (ws.setIfInBounds 0 y).push x = (ws.push y).swap 0 ws.size (by simp) (by simp) := by
    apply Array.ext_getElem?
    intro i
    rw [swap_get, Array.getElem?_push, Array.getElem?_push, Array.getElem?_push, Array.getElem?_push]
    by_cases e1 : i = 0
    · subst e1
      have : ¬ 0 = ws.size := by omega
      simp [this, h1]
    · by_cases e2 : i = ws.size
      · subst e2
        have : ¬ 0 = ws.size := by omega
        simp [e1, this, h0]
      · rw [Array.getElem?_setIfInBounds_ne (fun q => e1 q.symm)]
        simp [e1, e2]
  rw [e]
  exact Array.swap_perm ..

theorem HeapDown.start {ws : Array α} (h : IsHeap le ws) (x : α) : HeapDown le 0 (ws.setIfInBounds 0 x) := by
  constructor
  · intro i a b hi hb ha hb'
    have h1 : (0 : Nat) ≠ i := by omega
    have h2 : (0 : Nat) ≠ (i - 1) / 2 := by omega
    rw [Array.getElem?_setIfInBounds_ne h1] at ha
    rw [Array.getElem?_setIfInBounds_ne h2] at hb'
    exact h i a b hi (fun f => f) ha hb'
  · intro i a b h0; omega

/-- down to the lesser child c -/
theorem HeapDown.step {ws : Array α} {p c : Nat} {x : α} (h : HeapDown le p ws) (hp : p < ws.size) (hc : c < ws.size) (hpc : (c - 1) / 2 = p) (hc0 : 0 < c)
    (hx : ws[c]? = some x) (hmin : ∀ i y, 0 < i → (i - 1) / 2 = p → ws[i]? = some y → le x y) : HeapDown le c (ws.swap p c hp hc) := by
  have hne : p ≠ c := by omega
  have hpar : ∀ i, 0 < p → p = i → False ∨ True := fun _ _ _ => .inr trivial
  constructor
  · intro i a b hi hb ha hb'
    rw [swap_get] at ha hb'
    have e1 : i ≠ c := fun e => hb (.inl e)
    have e2 : (i - 1) / 2 ≠ c := fun e => hb (.inr ⟨hi, e⟩)
    by_cases e3 : i = p
    · subst e3
      simp only [if_true] at ha
      rw [hx] at ha; cases ha
      have e4 : (i - 1) / 2 ≠ i := by omega
      simp only [e4, e2, if_false] at hb'
      exact h.skip c _ b hi hpc hc0 hx hb'
    · simp only [e3, e1, if_false] at ha
      by_cases e4 : (i - 1) / 2 = p
      · simp only [e4, if_true] at hb'
        rw [hx] at hb'; cases hb'
        exact hmin i a hi e4 ha
      · simp only [e4, e2, if_false] at hb'
        exact h.but i a b hi (fun q => q.elim e3 fun z => e4 z.2) ha hb'
  · intro i a b hc1 hi0 hi ha hb
    rw [swap_get] at ha hb
    have e1 : i ≠ p := by omega
    have e2 : i ≠ c := by omega
    simp only [e1, e2, if_false] at ha
    rw [hpc] at hb
    simp only [if_true] at hb
    rw [hx] at hb; cases hb
    exact h.but i a _ hi (fun q => q.elim e1 fun z => by omega) ha (by rw [hi0]; exact hx)

/-- at a leaf: upward from there -/
theorem HeapDown.leaf {ws : Array α} {p : Nat} (h : HeapDown le p ws) (hl : ws.size ≤ 2 * p + 1) : HeapUp le p ws := by
  have hno : ∀ i a, 0 < i → (i - 1) / 2 = p → ws[i]? = some a → False := fun i a hi e ha => by
    rw [Array.getElem?_eq_none (by omega)] at ha; cases ha
  exact ⟨fun i a b hi hb ha hb' => h.but i a b hi (fun q => q.elim hb fun z => hno i a z.1 z.2 ha) ha hb', fun i a b _ e hi ha _ => (hno i a hi e ha).elim⟩
end
end Mine
end

section
open PySem
/-! the order of pairs -/
namespace Mine
theorem lex_asymm {x y : Int × Str} (h : lexLt x y = true) : lexLt y x = false := by
  unfold lexLt at *
  by_cases e : x.1 = y.1
  · simp only [e, if_true, decide_eq_true_eq] at h
    simp only [e, if_true, decide_eq_false_iff_not]
    exact List.lt_asymm h
  · simp only [e, if_false, decide_eq_true_eq] at h
    have e' : ¬ y.1 = x.1 := fun q => e q.symm
    simp only [e', if_false, decide_eq_false_iff_not]
    omega
theorem lex_irrefl (x : Int × Str) : lexLt x x = false := by
  cases h : lexLt x x with
  | false => rfl
  | true => exact (lex_asymm h).symm ▸ h ▸ rfl
theorem lex_trans_le {x y z : Int × Str} (h1 : lexLt y x = false) (h2 : lexLt z y = false) : lexLt z x = false := by
  unfold lexLt at *
  by_cases e : y.1 = x.1
  · simp only [e, if_true, decide_eq_false_iff_not] at h1
    by_cases e2 : z.1 = x.1
    · simp only [e2, e, if_true, decide_eq_false_iff_not] at h2 ⊢
      have a : x.2.cps.toList ≤ y.2.cps.toList := List.not_lt.mp h1
      have b : y.2.cps.toList ≤ z.2.cps.toList := List.not_lt.mp h2
      exact List.not_lt.mpr (List.le_trans a b)
    · have e3 : ¬ z.1 = y.1 := fun q => e2 (q.trans e)
      simp only [e3, e2, if_false, decide_eq_false_iff_not] at h2 ⊢
      omega
  · simp only [e, if_false, decide_eq_false_iff_not] at h1
    by_cases e2 : z.1 = y.1
    · have e3 : ¬ z.1 = x.1 := by omega
      simp only [e3, if_false, decide_eq_false_iff_not]
      omega
    · simp only [e2, if_false, decide_eq_false_iff_not] at h2
      have e3 : ¬ z.1 = x.1 := by omega
      simp only [e3, if_false, decide_eq_false_iff_not]
      omega
theorem cps_inj {a b : Str} (h : a.cps.toList = b.cps.toList) : a = b := by
  obtain ⟨x⟩ := a
  obtain ⟨y⟩ := b
  exact congrArg Str.mk (Array.toList_inj.mp h)
theorem lex_antisymm {x y : Int × Str} (h1 : lexLt y x = false) (h2 : lexLt x y = false) : x = y := by
  unfold lexLt at *
  by_cases e : x.1 = y.1
  · simp only [e, if_true, decide_eq_false_iff_not] at h1 h2
    have a : x.2.cps.toList ≤ y.2.cps.toList := List.not_lt.mp h1
    have b : y.2.cps.toList ≤ x.2.cps.toList := List.not_lt.mp h2
    exact Prod.ext e (cps_inj (List.le_antisymm a b))
  · have e' : ¬ y.1 = x.1 := fun q => e q.symm
    simp only [e, e', if_false, decide_eq_false_iff_not] at h1 h2
    omega
/-- the order of the places of a heap by their keys -/
def keyLe (key : Value → Int × Str) (a b : Value) : Prop := lexLt (key b) (key a) = false
theorem keyLe_refl (key : Value → Int × Str) (a : Value) : keyLe key a a := lex_irrefl _
theorem keyLe_trans (key : Value → Int × Str) (a b c : Value) (h1 : keyLe key a b) (h2 : keyLe key b c) : keyLe key a c := lex_trans_le h1 h2
end Mine
end

section
open PySem PySem.W PyProof.Rows PySem.Calls
set_option maxRecDepth 100000
set_option maxHeartbeats 1000000
namespace Mine
abbrev TT (mean : ExcName → Option Value) (mg mb : Str → Option Value) (h : Heap) : Prop := Top hd.view_39 (looseW hd.view_39 []) mean mg mb h
abbrev MM (w : World) := model PySem.Challenge.pw_ik0194_01 w
theorem mem_at {α : Type} {ws items : Array α} {i : Nat} {x : α} (p : ws.Perm items) (h : ws[i]? = some x) : x ∈ items := p.mem_iff.mp (Array.mem_of_getElem? h)
/-- what a call's end asks of a result -/
abbrev RV (Q : Value → Shared → Prop) (E : Value → Shared → Prop) : Result → Shared → Prop := fun r s' => match r with | .ok (.ret v) => Q v s' | .ok _ => False | .error e => E e s'
theorem call_up {M : Model} {A : Around} {n : Nat} {f : Value} {pos : List Value} {Q : Value → Shared → Prop} {E : Value → Shared → Prop} {s : Shared}
    (hh : A.handled = none) (hd : A.depth ≤ n) (hu : A.units ≤ 8 * n) (h : codeAny M (A0 n) (.call f ⟨pos, []⟩) (RV Q E) s) : wpAny M A (call f pos) Q E s :=
  wpAny_call (code_up h hh hd hu)
/-- all that lay there lies there still -/
abbrev Ext (h h' : Heap) : Prop := ∀ b x, h.get? b = some x → h'.get? b = some x
theorem none_of {h g : Heap} {D : Addr} (k : ∀ b o, h.get? b = some o → ¬ b ∈ List.map (fun (x : Addr × Obj) => x.1) [] → g.get? b = some o) (hg : g.get? D = none) : h.get? D = none := by
  cases q : h.get? D with
  | none => rfl
  | some x => have := k _ _ q (by simp); rw [hg] at this; cases this
end Mine
end

section
open PySem PySem.W PyProof.Rows PySem.Calls
set_option maxRecDepth 100000
set_option maxHeartbeats 1000000
namespace Mine
local macro_rules | `(tactic| tb_rel) => `(tactic| first | (goal_has PySem.W.Frag.In; (fail_if_success (with_reducible show wpAny _ _ (call (Value.ref _) _ _) _ _ _)); walk1) | (goal_lacks PySem.W.Frag.In; (with_reducible show wpAny _ _ _ _ _ _); (fail_if_success (with_reducible show wpAny _ _ (execs (PySem.Stmt.While _ _ _ _ :: _) _) _ _ _)); (fail_if_success (with_reducible show wpAny _ _ (execs (PySem.Stmt.For _ _ _ _ _ :: _) _) _ _ _)); (fail_if_success (with_reducible show wpAny _ _ (call (Value.ref _) _ _) _ _ _)); (fail_if_success (with_reducible show wpAny _ _ (pyIter _) _ _ _)); (fail_if_success (with_reducible show wpAny _ _ (call (Value.builtin "str.split") _ _) _ _ _)); (fail_if_success (with_reducible show wpAny _ _ (call (Value.ref _) _ _) _ _ _)); (fail_if_success (with_reducible show wpAny _ _ (exec (PySem.Stmt.Try _ _ _ _ _) _) _ _ _)); (fail_if_success (with_reducible show wpAny _ _ (subscriptTail _ _ (Value.ref _) _) _ _ _)); (fail_if_success (with_reducible show wpAny _ _ (setItem (Value.ref _) _ _) _ _ _)); first | walk1 | (dsimp only; walk1)) | ((fail_if_success (with_reducible show wpAny _ _ _ _ _ _)); (with_reducible refine Mine.ite_t (by with_reducible first | rfl | exact True.intro) ?_)) | ((fail_if_success (with_reducible show wpAny _ _ _ _ _ _)); (with_reducible refine Mine.ite_f (by decide) ?_)) | fail "no step")
local macro_rules | `(tactic| tb_start) => `(tactic| first | (goal_has PySem.W.Frag.In; (fail_if_success (with_reducible show wpAny _ _ (call (Value.ref _) _ _) _ _ _)); walk1) | (goal_lacks PySem.W.Frag.In; (with_reducible show wpAny _ _ _ _ _ _); (fail_if_success (with_reducible show wpAny _ _ (execs (PySem.Stmt.While _ _ _ _ :: _) _) _ _ _)); (fail_if_success (with_reducible show wpAny _ _ (execs (PySem.Stmt.For _ _ _ _ _ :: _) _) _ _ _)); (fail_if_success (with_reducible show wpAny _ _ (execs (PySem.Stmt.If _ _ _ _ :: _) _) _ _ _)); (fail_if_success (with_reducible show wpAny _ _ (call (Value.ref _) _ _) _ _ _)); (fail_if_success (with_reducible show wpAny _ _ (pyIter _) _ _ _)); (fail_if_success (with_reducible show wpAny _ _ (call (Value.builtin "str.split") _ _) _ _ _)); (fail_if_success (with_reducible show wpAny _ _ (call (Value.ref _) _ _) _ _ _)); (fail_if_success (with_reducible show wpAny _ _ (exec (PySem.Stmt.Try _ _ _ _ _) _) _ _ _)); (fail_if_success (with_reducible show wpAny _ _ (subscriptTail _ _ (Value.ref _) _) _ _ _)); (fail_if_success (with_reducible show wpAny _ _ (setItem (Value.ref _) _ _) _ _ _)); first | walk1 | (dsimp only; walk1)) | ((fail_if_success (with_reducible show wpAny _ _ _ _ _ _)); (with_reducible refine Mine.ite_t (by with_reducible first | rfl | exact True.intro) ?_)) | ((fail_if_success (with_reducible show wpAny _ _ _ _ _ _)); (with_reducible refine Mine.ite_f (by decide) ?_)) | fail "no step")
theorem siftdown_c {w : World} {s : Shared} {h₀ : Heap} {mean : ExcName → Option Value} {mg mb : Str → Option Value} (X : (hd.heap_39 w.params).In h₀) (T : TT mean mg mb h₀) (st : h₀.StaysIn s.heap) {l : Addr} {items : Array Value} {n : Nat} (hl : s.heap.get? l = some (listOf items n)) (h0 : h₀.get? l = none)
  {pos : Nat} {t1 t2 : Tok} {R : Result → Shared → Prop} (hpos : pos < items.size) (hsz : items.size ≤ 1000) (key : Value → Int × Str) (hk : ∀ v ∈ items, PairAt s.heap v (key v))
  (hup : HeapUp (keyLe key) pos items)
  (ret : ∀ h' tk' ys n', (∀ b x, b ≠ l → s.heap.get? b = some x → h'.get? b = some x) → h'.get? l = some (listOf ys n') → ys.Perm items → IsHeap (keyLe key) ys → R (.ok (.ret .none)) { s with heap := h', toks := tk' }) :
  codeAny (MM w) (A0 500) (.call (.ref 185) ⟨[.ref l, .int 0 t1, .int pos t2], []⟩) R s := by
  refine' enter (binds := [((Str.ofString "heap"), .ref l), ((Str.ofString "startpos"), .int 0 t1), ((Str.ofString "pos"), .int pos t2)]) [(l, listOf items n)] X T st ?a1 ?a2 ?a3 ?a4 ?a5 ?a6 ?a7 ?a8 ?a9 ?a10 ?a11
  case a2 => k_is
  case a3 => k_is
  case a1 => intro q hq; cases hq with | head => exact ⟨hl, h0⟩ | tail _ hq => cases hq
  case a4 => decide
  case a5 => exact BindsTo.of_eq rfl
  case a6 => exact locs rfl
  case a8 => exact rfl
  case a9 => exact rfl
  case a10 => exact rfl
  case a11 => decide
  intro g L h₁ Xg Tg hg1 hg2 hlt F N
  have hkg : ∀ v ∈ items, PairAt g v (key v) := fun v hv => by
    obtain ⟨a, t, u, e, q⟩ := hk v hv
    refine ⟨a, t, u, e, hg1 _ _ q ?_⟩
    intro hm
    obtain rfl : a = l := by simpa using hm
    exact not_both hl q
  have hv0 := Array.getElem?_eq_getElem hpos
  generalize items[pos] = v0 at hv0
  repeat' tb_rel
  refine item_at (list_of N (.head _)) (by omega) (by omega) (v := v0) hv0 ?_
  repeat' tb_rel
  rename Fr _ _ _ _ => F1
  rename News _ _ _ _ => N1
  refine cut_ (fun s' => ∃ (p : Nat) (zs ws : Array Value) (u : Str → Option Value) (h' : Heap) (tk' : Nat) (t : Tok), s' = { s with heap := h', toks := tk' } ∧
    Fr g L h' (bd u [((Str.ofString "heap"), .ref l), ((Str.ofString "pos"), .int p t), ((Str.ofString "newitem"), v0)]) ∧ News g L h' [(l, listOf zs n)] ∧
    zs.size = items.size ∧ p < zs.size ∧ ws.size = zs.size ∧ (∀ i, i ≠ p → zs[i]? = ws[i]?) ∧ ws[p]? = some v0 ∧ ws.Perm items ∧ IsHeap (keyLe key) ws) ?_ ?_
  · refine while_ (fun k s' => ∃ (p : Nat) (zs ws : Array Value) (u : Str → Option Value) (h' : Heap) (tk' : Nat) (t : Tok), s' = { s with heap := h', toks := tk' } ∧ k = p ∧
      Fr g L h' (bd u [((Str.ofString "heap"), .ref l), ((Str.ofString "startpos"), .int 0 t1), ((Str.ofString "pos"), .int p t), ((Str.ofString "newitem"), v0)]) ∧ News g L h' [(l, listOf zs n)] ∧
      zs.size = items.size ∧ p < zs.size ∧ ws.size = zs.size ∧ (∀ i, i ≠ p → zs[i]? = ws[i]?) ∧ ws[p]? = some v0 ∧ ws.Perm items ∧ HeapUp (keyLe key) p ws) ?_ pos
      ⟨pos, items, items, _, _, _, t2, rfl, rfl, fr_bd F1 _ ⟨rfl, rfl, rfl, rfl, trivial⟩, N1, rfl, hpos, rfl, fun _ _ => rfl, hv0, .refl _, hup⟩
    rintro p s' ⟨_, zs, ws, u, h2, tk2, t, rfl, rfl, F2, N2, z1, z2, z3, z4, z5, z6, z7⟩
    (try clear F1 N1)
    repeat' tb_rel
    refine ite_b (fun c => ?_) (fun c => ?_)
    · have hp0 : 0 < p := by simpa using c
      repeat' tb_rel
      dsimp only
      have hq : ((p : Int) - 1).fdiv (2 ^ Int.toNat 1) = (((p - 1) / 2 : Nat) : Int) := by
        show ((p : Int) - 1).fdiv 2 = _
        rw [Int.fdiv_eq_ediv_of_nonneg _ (by decide)]
        omega
      rw [hq]
      have hqs : (p - 1) / 2 < ws.size := by omega
      have hy := Array.getElem?_eq_getElem hqs
      generalize ws[(p - 1) / 2] = y at hy
      rename News _ _ _ _ => N3
      refine item_at (list_of N3 (.head _)) (by omega) (by omega) (v := y) (by rw [Int.toNat_natCast, z4 _ (by omega)]; exact hy) ?_
      repeat' tb_rel
      rename Fr _ _ _ _ => F4
      refine lt_pair (by show 4003 < 9900; decide) ((hkg _ (mem_at z6 z5)).keeps F4.keep) ((hkg _ (mem_at z6 hy)).keeps F4.keep) ?_
      repeat' tb_rel
      refine ite_b (fun c2 => ?_) (fun c2 => ?_)
      · repeat' tb_rel
        rename Fr _ _ _ _ => F5
        rename News _ _ _ _ => N5
        refine set_at F5 N5 (.head (by simp)) (by omega) (by omega) (by omega) (fun h6 F6 N6 => ?_)
        (try clear F5 N5)
        repeat' tb_rel
        rename Fr _ _ _ _ => F7
        rename News _ _ _ _ => N7
        dsimp only
        refine ⟨(p - 1) / 2, by omega, _, _, ws.swap p ((p - 1) / 2) (by omega) hqs, _, _, _, _, rfl, rfl, fr_bd F7 _ ⟨rfl, rfl, (by rw [← hq]; rfl), rfl, trivial⟩, N7, ?_, ?_, ?_, ?_, ?_, ?_, ?_⟩
        · simp [z1]
        · simp; omega
        · simp [z3]
        · intro i hi
          rw [Int.toNat_natCast, swap_get]
          by_cases e : i = p
          · subst e
            simp [z2, hy]
          · rw [Array.getElem?_setIfInBounds_ne (fun q => e q.symm)]
            simp [e, hi, z4 i e]
        · rw [swap_get]
          have e : ¬ (p - 1) / 2 = p := by omega
          simp [e, z5]
        · exact (Array.swap_perm ..).trans z6
        · exact z7.step (keyLe_trans key) hp0 (by omega) z5 hy (lex_asymm c2)
      · repeat' tb_rel
        dsimp only
        rename News _ _ _ _ => N7
        rename Fr _ _ _ _ => F7
        exact ⟨rfl, p, zs, ws, _, _, _, t, rfl, fr_bd F7 _ ⟨rfl, rfl, rfl, trivial⟩, N7, z1, z2, z3, z4, z5, z6, z7.done z5 hy c2⟩
    · have hp0 : p = 0 := by simpa using c
      subst hp0
      exact ⟨rfl, 0, zs, ws, _, _, _, t, rfl, fr_bd F2 _ ⟨rfl, rfl, rfl, trivial⟩, N2, z1, z2, z3, z4, z5, z6, z7.done0⟩
  · rintro s' ⟨p, zs, ws, u, h2, tk2, t, rfl, F2, N2, z1, z2, z3, z4, z5, z6, z7⟩
    repeat' tb_rel
    rename Fr _ _ _ _ => F5
    rename News _ _ _ _ => N5
    refine set_at F5 N5 (.head (by simp)) (by omega) (by omega) (by omega) (fun h6 F6 N6 => ?_)
    repeat' tb_rel
    dsimp only
    have hze : zs.setIfInBounds (Int.toNat p) v0 = ws := by
      apply Array.ext_getElem?
      intro i
      rw [Int.toNat_natCast]
      by_cases e : i = p
      · subst e
        simp [z2, z5]
      · rw [Array.getElem?_setIfInBounds_ne (fun q => e q.symm), z4 i e]
    rw [hze] at N6
    refine ret _ _ ws n (fun b x hb hx => F6.keep _ _ (hg1 b x hx (by simpa using hb))) (N6 _ (.head _)).1 z6 z7

theorem siftup_c {w : World} {s : Shared} {h₀ : Heap} {mean : ExcName → Option Value} {mg mb : Str → Option Value} (X : (hd.heap_39 w.params).In h₀) (T : TT mean mg mb h₀) (st : h₀.StaysIn s.heap) {l : Addr} {items : Array Value} {n : Nat} (hl : s.heap.get? l = some (listOf items n)) (h0 : h₀.get? l = none)
  {t1 : Tok} {R : Result → Shared → Prop} (hpos : 0 < items.size) (hsz : items.size ≤ 1000) (key : Value → Int × Str) (hk : ∀ v ∈ items, PairAt s.heap v (key v))
  (hup : HeapDown (keyLe key) 0 items)
  (ret : ∀ h' tk' ys n', (∀ b x, b ≠ l → s.heap.get? b = some x → h'.get? b = some x) → h'.get? l = some (listOf ys n') → ys.Perm items → IsHeap (keyLe key) ys → R (.ok (.ret .none)) { s with heap := h', toks := tk' }) :
  codeAny (MM w) (A0 480) (.call (.ref 192) ⟨[.ref l, .int 0 t1], []⟩) R s := by
  refine' enter (binds := [((Str.ofString "heap"), .ref l), ((Str.ofString "pos"), .int 0 t1)]) [(l, listOf items n)] X T st ?a1 ?a2 ?a3 ?a4 ?a5 ?a6 ?a7 ?a8 ?a9 ?a10 ?a11
  case a2 => k_is
  case a3 => k_is
  case a1 => intro q hq; cases hq with | head => exact ⟨hl, h0⟩ | tail _ hq => cases hq
  case a4 => decide
  case a5 => exact BindsTo.of_eq rfl
  case a6 => exact locs rfl
  case a8 => exact rfl
  case a9 => exact rfl
  case a10 => exact rfl
  case a11 => decide
  intro g L h₁ Xg Tg hg1 hg2 hlt F N
  have hkg : ∀ v ∈ items, PairAt g v (key v) := fun v hv => by
    obtain ⟨a, t, u, e, q⟩ := hk v hv
    refine ⟨a, t, u, e, hg1 _ _ q ?_⟩
    intro hm
    obtain rfl : a = l := by simpa using hm
    exact not_both hl q
  have hv0 := Array.getElem?_eq_getElem hpos
  generalize items[0] = v0 at hv0
  repeat' tb_rel
  rename News _ _ _ _ => N0
  refine item_at (list_of N0 (.head _)) (by omega) (by omega) (v := v0) hv0 ?_
  repeat' tb_rel
  rename Fr _ _ _ _ => F1
  rename News _ _ _ _ => N1
  refine cut_ (fun s' => ∃ (p : Nat) (zs ws : Array Value) (u : Str → Option Value) (h' : Heap) (tk' : Nat) (t : Tok), s' = { s with heap := h', toks := tk' } ∧
    Fr g L h' (bd u [((Str.ofString "heap"), .ref l), ((Str.ofString "startpos"), .int 0 t1), ((Str.ofString "pos"), .int p t), ((Str.ofString "newitem"), v0)]) ∧ News g L h' [(l, listOf zs n)] ∧
    zs.size = items.size ∧ p < zs.size ∧ ws.size = zs.size ∧ (∀ i, i ≠ p → zs[i]? = ws[i]?) ∧ ws[p]? = some v0 ∧ ws.Perm items ∧ HeapUp (keyLe key) p ws) ?_ ?_
  · refine while_ (fun k s' => ∃ (p : Nat) (zs ws : Array Value) (u : Str → Option Value) (h' : Heap) (tk' : Nat) (t te tc : Tok), s' = { s with heap := h', toks := tk' } ∧ k + p = items.size ∧
      Fr g L h' (bd u [((Str.ofString "heap"), .ref l), ((Str.ofString "startpos"), .int 0 t1), ((Str.ofString "endpos"), .int items.size te), ((Str.ofString "pos"), .int p t), ((Str.ofString "childpos"), .int (2 * (p : Int) + 1) tc), ((Str.ofString "newitem"), v0)]) ∧ News g L h' [(l, listOf zs n)] ∧
      zs.size = items.size ∧ p < zs.size ∧ ws.size = zs.size ∧ (∀ i, i ≠ p → zs[i]? = ws[i]?) ∧ ws[p]? = some v0 ∧ ws.Perm items ∧ HeapDown (keyLe key) p ws) ?_ items.size
      ⟨0, items, items, _, _, _, t1, _, _, rfl, rfl, fr_bd F1 _ ⟨rfl, rfl, rfl, rfl, rfl, rfl, trivial⟩, N1, rfl, hpos, rfl, fun _ _ => rfl, hv0, .refl _, hup⟩
    rintro k s' ⟨p, zs, ws, u, h2, tk2, t, te, tc, rfl, hkp, F2, N2, z1, z2, z3, z4, z5, z6, z7⟩
    (try clear F1 N1)
    repeat' tb_rel
    refine ite_b (fun c => ?_) (fun c => ?_)
    · have hp0 : 2 * p + 1 < items.size := by have := of_decide_eq_true c; omega
      repeat' tb_start
      rename Fr _ _ _ _ => F3
      rename News _ _ _ _ => N3
      refine cut_ (fun s' => ∃ (c : Nat) (h' : Heap) (tk' : Nat) (tc' : Tok) (u : Str → Option Value) (y : Value), s' = { s with heap := h', toks := tk' } ∧
        Fr g L h' (bd u [((Str.ofString "heap"), .ref l), ((Str.ofString "startpos"), .int 0 t1), ((Str.ofString "endpos"), .int items.size te), ((Str.ofString "pos"), .int p t), ((Str.ofString "childpos"), .int c tc'), ((Str.ofString "newitem"), v0)]) ∧ News g L h' [(l, listOf zs n)] ∧
        c < ws.size ∧ (c - 1) / 2 = p ∧ 0 < c ∧ ws[c]? = some y ∧ ∀ i y', 0 < i → (i - 1) / 2 = p → ws[i]? = some y' → keyLe key y y') ?_ ?_
      · have hc1 : 2 * p + 1 < ws.size := by omega
        have hy1 := Array.getElem?_eq_getElem hc1
        generalize ws[2 * p + 1] = y1 at hy1
        repeat' tb_rel
        refine ite_b (fun c2 => ?_) (fun c2 => ?_)
        · have hp2 : 2 * p + 2 < items.size := by have := of_decide_eq_true c2; omega
          have hc2 : 2 * p + 2 < ws.size := by omega
          have hy2 := Array.getElem?_eq_getElem hc2
          generalize ws[2 * p + 2] = y2 at hy2
          repeat' tb_rel
          rename Fr _ _ _ _ => F4
          rename News _ _ _ _ => N4
          refine item_at (list_of N4 (.head _)) (by omega) (by omega) (v := y1) (by rw [show (2 * (p : Int) + 1).toNat = 2 * p + 1 by omega, z4 _ (by omega)]; exact hy1) ?_
          repeat' tb_rel
          rename Fr _ _ _ _ => F5
          rename News _ _ _ _ => N5
          refine item_at (list_of N5 (.head _)) (by omega) (by omega) (v := y2) (by rw [show (2 * (p : Int) + 1 + 1).toNat = 2 * p + 2 by omega, z4 _ (by omega)]; exact hy2) ?_
          repeat' tb_rel
          rename Fr _ _ _ _ => F6
          refine lt_pair (by show 3843 < 9900; decide) ((hkg _ (mem_at z6 hy1)).keeps F6.keep) ((hkg _ (mem_at z6 hy2)).keeps F6.keep) ?_
          repeat' tb_rel
          refine ite_b (fun c3 => ?_) (fun c3 => ?_)
          · repeat' tb_rel
            repeat' tb_rel
            rename Fr _ _ _ _ => F7
            rename News _ _ _ _ => N7
            dsimp only
            have hle : keyLe key y2 y1 := by simpa [keyLe] using c3
            refine ⟨rfl, 2 * p + 2, _, _, _, _, y2, rfl, fr_bd F7 _ ⟨rfl, rfl, rfl, rfl, (by rw [show ((2 * p + 2 : Nat) : Int) = 2 * (p : Int) + 1 + 1 by omega]; rfl), rfl, trivial⟩, N7, by omega, by omega, by omega, hy2, fun i y' hi hip hy' => ?_⟩
            have hi2 : i = 2 * p + 1 ∨ i = 2 * p + 2 := by omega
            rcases hi2 with rfl | rfl
            · rw [hy1] at hy'; cases hy'
              exact hle
            · rw [hy2] at hy'; cases hy'
              exact keyLe_refl _ _
          · repeat' tb_rel
            repeat' tb_rel
            rename Fr _ _ _ _ => F7
            rename News _ _ _ _ => N7
            dsimp only
            have hle : keyLe key y1 y2 := lex_asymm (by simpa using c3)
            refine ⟨rfl, 2 * p + 1, _, _, _, _, y1, rfl, fr_bd F7 _ ⟨rfl, rfl, rfl, rfl, rfl, rfl, trivial⟩, N7, by omega, by omega, by omega, hy1, fun i y' hi hip hy' => ?_⟩
            have hi2 : i = 2 * p + 1 ∨ i = 2 * p + 2 := by omega
            rcases hi2 with rfl | rfl
            · rw [hy1] at hy'; cases hy'
              exact keyLe_refl _ _
            · rw [hy2] at hy'; cases hy'
              exact hle
        · have hp2 : items.size ≤ 2 * p + 2 := by have := of_decide_eq_false c2; omega
          repeat' tb_rel
          repeat' tb_rel
          rename Fr _ _ _ _ => F5
          rename News _ _ _ _ => N5
          dsimp only
          refine ⟨rfl, 2 * p + 1, _, _, _, _, y1, rfl, fr_bd F5 _ ⟨rfl, rfl, rfl, rfl, rfl, rfl, trivial⟩, N5, by omega, by omega, by omega, hy1, fun i y' hi hip hy' => ?_⟩
          have hlt : i < ws.size := (Array.getElem?_eq_some_iff.mp hy').1
          obtain rfl : i = 2 * p + 1 := by omega
          rw [hy1] at hy'; cases hy'
          exact keyLe_refl _ _
      · rintro s' ⟨c, h4, tk4, tc4, u4, y, rfl, F4, N4, w1, w2, w3, w4, w5⟩
        repeat' tb_rel
        rename News _ _ _ _ => N5
        refine item_at (list_of N5 (.head _)) (by omega) (by omega) (v := y) (by rw [Int.toNat_natCast, z4 _ (by omega)]; exact w4) ?_
        repeat' tb_rel
        rename Fr _ _ _ _ => F6
        rename News _ _ _ _ => N6
        refine set_at F6 N6 (.head (by simp)) (by omega) (by omega) (by omega) (fun h7 F7 N7 => ?_)
        repeat' tb_rel
        rename Fr _ _ _ _ => F8
        rename News _ _ _ _ => N8
        dsimp only
        have hcs : c < ws.size := w1
        refine ⟨k + p - c, by omega, c, _, ws.swap p c (by omega) hcs, _, _, _, _, _, _, rfl, by omega, fr_bd F8 _ ⟨rfl, rfl, rfl, rfl, rfl, rfl, trivial⟩, N8, ?_, ?_, ?_, ?_, ?_, ?_, ?_⟩
        · simp [z1]
        · simp; omega
        · simp [z3]
        · intro i hi
          rw [Int.toNat_natCast, swap_get]
          by_cases e : i = p
          · subst e
            simp [z2, w4]
          · rw [Array.getElem?_setIfInBounds_ne (fun q => e q.symm)]
            simp [e, hi, z4 i e]
        · rw [swap_get]
          have e : ¬ c = p := by omega
          simp [e, z5]
        · exact (Array.swap_perm ..).trans z6
        · exact z7.step (by omega) hcs w2 w3 w4 w5
    · have hp0 : items.size ≤ 2 * p + 1 := by have := of_decide_eq_false c; omega
      exact ⟨rfl, p, zs, ws, _, _, _, t, rfl, fr_bd F2 _ ⟨rfl, rfl, rfl, rfl, trivial⟩, N2, z1, z2, z3, z4, z5, z6, z7.leaf (by omega)⟩
  · rintro s' ⟨p, zs, ws, u, h2, tk2, t, rfl, F2, N2, z1, z2, z3, z4, z5, z6, z7⟩
    repeat' tb_rel
    rename Fr _ _ _ _ => F5
    rename News _ _ _ _ => N5
    refine set_at F5 N5 (.head (by simp)) (by omega) (by omega) (by omega) (fun h6 F6 N6 => ?_)
    repeat' tb_rel
    rename Fr _ _ _ _ => F7
    rename News _ _ _ _ => N7
    have hze : zs.setIfInBounds (Int.toNat p) v0 = ws := by
      apply Array.ext_getElem?
      intro i
      rw [Int.toNat_natCast]
      by_cases e : i = p
      · subst e
        simp [z2, z5]
      · rw [Array.getElem?_setIfInBounds_ne (fun q => e q.symm), z4 i e]
    rw [hze] at N7
    refine call_up (n := 500) rfl (Nat.le_of_ble_eq_true rfl) (Nat.le_of_ble_eq_true rfl) ?_
    refine siftdown_c Xg Tg (by exact F7.keep) (by exact (N7 _ (.head _)).1) (by exact (N7 _ (.head _)).2.2) (by omega) (by omega) key (fun v hv => (hkg v (z6.mem_iff.mp hv)).keeps F7.keep) z7 fun h9 tk9 ys n9 e9 l9 p9 q9 => ?_
    dsimp only [RV]
    repeat' tb_rel
    dsimp only
    exact ret _ _ ys n9 (fun b x hb hx => e9 _ _ hb (F7.keep _ _ (hg1 b x hx (by simpa using hb)))) l9 (p9.trans z6) q9
end Mine
end

section
open PySem PySem.W PyProof.Rows PySem.Calls
set_option maxRecDepth 100000
set_option maxHeartbeats 1000000
namespace Mine
local macro_rules | `(tactic| tb_rel) => `(tactic| first | (goal_has PySem.W.Frag.In; (fail_if_success (with_reducible show wpAny _ _ (call (Value.ref _) _ _) _ _ _)); walk1) | (goal_lacks PySem.W.Frag.In; (with_reducible show wpAny _ _ _ _ _ _); (fail_if_success (with_reducible show wpAny _ _ (execs (PySem.Stmt.While _ _ _ _ :: _) _) _ _ _)); (fail_if_success (with_reducible show wpAny _ _ (execs (PySem.Stmt.For _ _ _ _ _ :: _) _) _ _ _)); (fail_if_success (with_reducible show wpAny _ _ (call (Value.ref _) _ _) _ _ _)); (fail_if_success (with_reducible show wpAny _ _ (pyIter _) _ _ _)); (fail_if_success (with_reducible show wpAny _ _ (call (Value.builtin "str.split") _ _) _ _ _)); (fail_if_success (with_reducible show wpAny _ _ (call (Value.ref _) _ _) _ _ _)); (fail_if_success (with_reducible show wpAny _ _ (exec (PySem.Stmt.Try _ _ _ _ _) _) _ _ _)); first | walk1 | (dsimp only; walk1)) | ((fail_if_success (with_reducible show wpAny _ _ _ _ _ _)); (with_reducible refine Mine.ite_t (by with_reducible first | rfl | exact True.intro) ?_)) | ((fail_if_success (with_reducible show wpAny _ _ _ _ _ _)); (with_reducible refine Mine.ite_f (by decide) ?_)) | fail "no step")
local macro_rules | `(tactic| tb_start) => `(tactic| first | (goal_has PySem.W.Frag.In; (fail_if_success (with_reducible show wpAny _ _ (call (Value.ref _) _ _) _ _ _)); walk1) | (goal_lacks PySem.W.Frag.In; (with_reducible show wpAny _ _ _ _ _ _); (fail_if_success (with_reducible show wpAny _ _ (execs (PySem.Stmt.While _ _ _ _ :: _) _) _ _ _)); (fail_if_success (with_reducible show wpAny _ _ (execs (PySem.Stmt.For _ _ _ _ _ :: _) _) _ _ _)); (fail_if_success (with_reducible show wpAny _ _ (execs (PySem.Stmt.If _ _ _ _ :: _) _) _ _ _)); (fail_if_success (with_reducible show wpAny _ _ (call (Value.ref _) _ _) _ _ _)); (fail_if_success (with_reducible show wpAny _ _ (pyIter _) _ _ _)); (fail_if_success (with_reducible show wpAny _ _ (call (Value.builtin "str.split") _ _) _ _ _)); (fail_if_success (with_reducible show wpAny _ _ (call (Value.ref _) _ _) _ _ _)); (fail_if_success (with_reducible show wpAny _ _ (exec (PySem.Stmt.Try _ _ _ _ _) _) _ _ _)); first | walk1 | (dsimp only; walk1)) | ((fail_if_success (with_reducible show wpAny _ _ _ _ _ _)); (with_reducible refine Mine.ite_t (by with_reducible first | rfl | exact True.intro) ?_)) | ((fail_if_success (with_reducible show wpAny _ _ _ _ _ _)); (with_reducible refine Mine.ite_f (by decide) ?_)) | fail "no step")
theorem heappush_c {w : World} {s : Shared} {h₀ : Heap} {mean : ExcName → Option Value} {mg mb : Str → Option Value} (X : (hd.heap_39 w.params).In h₀) (T : TT mean mg mb h₀) (st : h₀.StaysIn s.heap) {l : Addr} {items : Array Value} {n : Nat} (hl : s.heap.get? l = some (listOf items n)) (h0 : h₀.get? l = none)
  {v : Value} {R : Result → Shared → Prop} (hsz : items.size ≤ 900) (key : Value → Int × Str) (hk : ∀ v ∈ items, PairAt s.heap v (key v)) (hv : PairAt s.heap v (key v))
  (hup : IsHeap (keyLe key) items)
  (ret : ∀ h' tk' ys n', (∀ b x, b ≠ l → s.heap.get? b = some x → h'.get? b = some x) → h'.get? l = some (listOf ys n') → ys.Perm (items.push v) → IsHeap (keyLe key) ys → R (.ok (.ret .none)) { s with heap := h', toks := tk' }) :
  codeAny (MM w) (A0 460) (.call (.ref 171) ⟨[.ref l, v], []⟩) R s := by
  refine' enter (binds := [((Str.ofString "heap"), .ref l), ((Str.ofString "item"), v)]) [(l, listOf items n)] X T st ?a1 ?a2 ?a3 ?a4 ?a5 ?a6 ?a7 ?a8 ?a9 ?a10 ?a11
  case a2 => k_is
  case a3 => k_is
  case a1 => intro q hq; cases hq with | head => exact ⟨hl, h0⟩ | tail _ hq => cases hq
  case a4 => decide
  case a5 => exact BindsTo.of_eq rfl
  case a6 => exact locs rfl
  case a8 => exact rfl
  case a9 => exact rfl
  case a10 => exact rfl
  case a11 => decide
  intro g L h₁ Xg Tg hg1 hg2 hlt F N
  have up : ∀ v, PairAt s.heap v (key v) → PairAt g v (key v) := fun v hv => by
    obtain ⟨a, t, u, e, q⟩ := hv
    refine ⟨a, t, u, e, hg1 _ _ q ?_⟩
    intro hm
    obtain rfl : a = l := by simpa using hm
    exact not_both hl q
  have hkg : ∀ x ∈ items.push v, PairAt g x (key x) := fun x hx => by
    rcases Array.mem_push.mp hx with hx | rfl
    · exact up x (hk x hx)
    · exact up _ hv
  repeat' tb_rel
  rename Fr _ _ _ _ => F1
  rename News _ _ _ _ => N1
  refine call_len_list (items := items.push v) (list_of N1 (.head _)) (by simp; omega) ?_
  repeat' tb_rel
  rename Fr _ _ _ _ => F2
  rename News _ _ _ _ => N2
  have e : ((items.push v).size : Int) - 1 = (items.size : Int) := by simp
  rw [e]
  refine call_up (n := 500) rfl (Nat.le_of_ble_eq_true rfl) (Nat.le_of_ble_eq_true rfl) ?_
  refine siftdown_c Xg Tg (by exact F2.keep) (by exact (N2 _ (.head _)).1) (by exact (N2 _ (.head _)).2.2) (by simp) (by simp; omega) key (fun x hx => (hkg x hx).keeps (by exact F2.keep)) (hup.push v) fun h9 tk9 ys n9 e9 l9 p9 q9 => ?_
  dsimp only [RV]
  repeat' tb_rel
  dsimp only
  exact ret _ _ ys n9 (fun b x hb hx => e9 _ _ hb (F2.keep _ _ (hg1 b x hx (by simpa using hb)))) l9 p9 q9

theorem heappop_c {w : World} {s : Shared} {h₀ : Heap} {mean : ExcName → Option Value} {mg mb : Str → Option Value} (X : (hd.heap_39 w.params).In h₀) (T : TT mean mg mb h₀) (st : h₀.StaysIn s.heap) {l : Addr} {items : Array Value} {n : Nat} (hl : s.heap.get? l = some (listOf items n)) (h0 : h₀.get? l = none)
  {R : Result → Shared → Prop} (hpos : 0 < items.size) (hsz : items.size ≤ 900) (key : Value → Int × Str) (hk : ∀ v ∈ items, PairAt s.heap v (key v))
  (hup : IsHeap (keyLe key) items)
  (ret : ∀ h' tk' v ys n', (∀ b x, b ≠ l → s.heap.get? b = some x → h'.get? b = some x) → h'.get? l = some (listOf ys n') → (ys.push v).Perm items → IsHeap (keyLe key) ys → (∀ u ∈ items, keyLe key v u) → R (.ok (.ret v)) { s with heap := h', toks := tk' }) :
  codeAny (MM w) (A0 460) (.call (.ref 178) ⟨[.ref l], []⟩) R s := by
  refine' enter (binds := [((Str.ofString "heap"), .ref l)]) [(l, listOf items n)] X T st ?a1 ?a2 ?a3 ?a4 ?a5 ?a6 ?a7 ?a8 ?a9 ?a10 ?a11
  case a2 => k_is
  case a3 => k_is
  case a1 => intro q hq; cases hq with | head => exact ⟨hl, h0⟩ | tail _ hq => cases hq
  case a4 => decide
  case a5 => exact BindsTo.of_eq rfl
  case a6 => exact locs rfl
  case a8 => exact rfl
  case a9 => exact rfl
  case a10 => exact rfl
  case a11 => decide
  intro g L h₁ Xg Tg hg1 hg2 hlt F N
  have up : ∀ v, PairAt s.heap v (key v) → PairAt g v (key v) := fun v hv => by
    obtain ⟨a, t, u, e, q⟩ := hv
    refine ⟨a, t, u, e, hg1 _ _ q ?_⟩
    intro hm
    obtain rfl : a = l := by simpa using hm
    exact not_both hl q
  have hkg : ∀ x ∈ items, PairAt g x (key x) := fun x hx => up x (hk x hx)
  obtain ⟨p, y, rfl⟩ : ∃ p y, items = (p ++ [y]).toArray := by
    have hne : items.toList ≠ [] := fun e => by rw [Array.toList_eq_nil_iff] at e; subst e; exact absurd hpos (by simp)
    refine ⟨items.toList.dropLast, items.toList.getLast hne, ?_⟩
    rw [List.dropLast_concat_getLast hne]
  have hpush : (p ++ [y]).toArray = p.toArray.push y := by simp
  have hy : y ∈ (p ++ [y]).toArray := by simp
  have hps : p.length ≤ 900 := by simp at hsz; omega
  repeat' tb_start
  rename Fr _ _ _ _ => F1
  rename News _ _ _ _ => N1
  refine kl_pop (p := p) (y := y) F1 N1 (kpa_last y p) (.head (by simp)) (by simp [sizeLine_eq]; omega) (fun h2 F2 N2 => ?_)
  (try clear F1 N1)
  repeat' tb_rel
  rename Fr _ _ _ _ => F3
  rename News _ _ _ _ => N3
  refine ite_b (fun c => ?_) (fun c => ?_)
  · have hp0 : 0 < p.length := by
      cases p with
      | nil => simp at c
      | cons => simp
    have hv0 : p.toArray[0]? = some p[0] := by simp
    generalize p[0] = v0 at hv0
    repeat' tb_rel
    rename Fr _ _ _ _ => F4
    rename News _ _ _ _ => N4
    refine item_at (list_of N4 (.head _)) (by omega) (by omega) (v := v0) hv0 ?_
    repeat' tb_rel
    rename Fr _ _ _ _ => F5
    rename News _ _ _ _ => N5
    refine set_at F5 N5 (.head (by simp)) (by omega) (by omega) (by simp; omega) (fun h6 F6 N6 => ?_)
    (try clear F5 N5)
    repeat' tb_rel
    rename Fr _ _ _ _ => F7
    rename News _ _ _ _ => N7
    refine call_up (n := 480) rfl (Nat.le_of_ble_eq_true rfl) (Nat.le_of_ble_eq_true rfl) ?_
    have hpm := top_out (y := y) hv0
    refine siftup_c Xg Tg (by exact F7.keep) (by exact (N7 _ (.head _)).1) (by exact (N7 _ (.head _)).2.2) (by simp; omega) (by simp; omega) key (fun x hx => (hkg x ?_).keeps (by exact F7.keep)) (HeapDown.start (IsHeap.pre (hpush ▸ hup)) y) fun h9 tk9 ys n9 e9 l9 p9 q9 => ?_
    · have hx' : x ∈ p.toArray.setIfInBounds 0 y := hx
      rw [hpush]
      exact hpm.mem_iff.mp (Array.mem_push_of_mem _ hx')
    · dsimp only [RV]
      obtain ⟨F9, N9⟩ := behind F7 N7 (.head (by simp)) e9 l9
      repeat' tb_rel
      dsimp only
      refine ret _ _ v0 ys n9 (fun b x hb hx => e9 _ _ hb (F7.keep _ _ (hg1 b x hx (by simpa using hb)))) l9 ?_ q9 ?_
      · rw [hpush]
        exact (Array.Perm.push v0 p9).trans hpm
      · intro u hu
        obtain ⟨i, hi, rfl⟩ := Array.mem_iff_getElem.mp hu
        refine hup.top (keyLe_refl key) (keyLe_trans key) ?_ i _ (Array.getElem?_eq_getElem hi)
        rw [hpush, Array.getElem?_push, if_neg (by simp; omega)]
        exact hv0
  · have hp0 : p = [] := by
      cases p with
      | nil => rfl
      | cons => simp at c
    subst hp0
    repeat' tb_rel
    rename Fr _ _ _ _ => F4
    rename News _ _ _ _ => N4
    dsimp only
    refine ret _ _ y #[] _ (fun b x hb hx => F4.keep _ _ (hg1 b x hx (by simpa using hb))) (N4 _ (.head _)).1 (by simp) (fun i a b _ _ ha => by simp at ha) ?_
    intro u hu
    obtain rfl : u = y := by simpa using hu
    exact keyLe_refl _ _
end Mine
end

section
open PySem PySem.W PyProof.Rows PySem.Calls
set_option maxRecDepth 100000
set_option maxHeartbeats 1000000
namespace Mine
local macro_rules | `(tactic| tb_rel) => `(tactic| first | (goal_has PySem.W.Frag.In; (fail_if_success (with_reducible show wpAny _ _ (call (Value.ref _) _ _) _ _ _)); walk1) | (goal_lacks PySem.W.Frag.In; (with_reducible show wpAny _ _ _ _ _ _); (fail_if_success (with_reducible show wpAny _ _ (execs (PySem.Stmt.While _ _ _ _ :: _) _) _ _ _)); (fail_if_success (with_reducible show wpAny _ _ (execs (PySem.Stmt.For _ _ _ _ _ :: _) _) _ _ _)); (fail_if_success (with_reducible show wpAny _ _ (call (Value.ref _) _ _) _ _ _)); (fail_if_success (with_reducible show wpAny _ _ (pyIter _) _ _ _)); (fail_if_success (with_reducible show wpAny _ _ (call (Value.builtin "str.split") _ _) _ _ _)); (fail_if_success (with_reducible show wpAny _ _ (call (Value.ref _) _ _) _ _ _)); (fail_if_success (with_reducible show wpAny _ _ (exec (PySem.Stmt.Try _ _ _ _ _) _) _ _ _)); first | walk1 | (dsimp only; walk1)) | ((fail_if_success (with_reducible show wpAny _ _ _ _ _ _)); (with_reducible refine Mine.ite_t (by with_reducible first | rfl | exact True.intro) ?_)) | ((fail_if_success (with_reducible show wpAny _ _ _ _ _ _)); (with_reducible refine Mine.ite_f (by decide) ?_)) | fail "no step")
local macro_rules | `(tactic| tb_start) => `(tactic| first | (goal_has PySem.W.Frag.In; (fail_if_success (with_reducible show wpAny _ _ (call (Value.ref _) _ _) _ _ _)); walk1) | (goal_lacks PySem.W.Frag.In; (with_reducible show wpAny _ _ _ _ _ _); (fail_if_success (with_reducible show wpAny _ _ (execs (PySem.Stmt.While _ _ _ _ :: _) _) _ _ _)); (fail_if_success (with_reducible show wpAny _ _ (execs (PySem.Stmt.For _ _ _ _ _ :: _) _) _ _ _)); (fail_if_success (with_reducible show wpAny _ _ (execs (PySem.Stmt.If _ _ _ _ :: _) _) _ _ _)); (fail_if_success (with_reducible show wpAny _ _ (call (Value.ref _) _ _) _ _ _)); (fail_if_success (with_reducible show wpAny _ _ (pyIter _) _ _ _)); (fail_if_success (with_reducible show wpAny _ _ (call (Value.builtin "str.split") _ _) _ _ _)); (fail_if_success (with_reducible show wpAny _ _ (call (Value.ref _) _ _) _ _ _)); (fail_if_success (with_reducible show wpAny _ _ (exec (PySem.Stmt.Try _ _ _ _ _) _) _ _ _)); first | walk1 | (dsimp only; walk1)) | ((fail_if_success (with_reducible show wpAny _ _ _ _ _ _)); (with_reducible refine Mine.ite_t (by with_reducible first | rfl | exact True.intro) ?_)) | ((fail_if_success (with_reducible show wpAny _ _ _ _ _ _)); (with_reducible refine Mine.ite_f (by decide) ?_)) | fail "no step")
theorem fspath_c {w : World} {s : Shared} {h₀ : Heap} {mean : ExcName → Option Value} {mg mb : Str → Option Value} (X : (hd.heap_39 w.params).In h₀) (T : TT mean mg mb h₀) (st : h₀.StaysIn s.heap) {x : Str} {t : Tok} {R : Result → Shared → Prop}
  (ret : ∀ h' tk', Ext s.heap h' → R (.ok (.ret (.str x t))) { s with heap := h', toks := tk' }) :
  codeAny (MM w) (A0 500) (.call (.ref 122) ⟨[.str x t], []⟩) R s := by
  refine' enter (binds := [((Str.ofString "path"), .str x t)]) [] X T st ?a1 ?a2 ?a3 ?a4 ?a5 ?a6 ?a7 ?a8 ?a9 ?a10 ?a11
  case a2 => k_is
  case a3 => k_is
  case a1 => intro q hq; cases hq
  case a4 => decide
  case a5 => exact BindsTo.of_eq rfl
  case a6 => exact locs rfl
  case a8 => exact rfl
  case a9 => exact rfl
  case a10 => exact rfl
  case a11 => decide
  intro g L h₁ Xg Tg hg1 hg2 hlt F N
  repeat' tb_rel
  rename Fr _ _ _ _ => F1
  rename News _ _ _ _ => N1
  refine issub_pair (by exact (N1 _ (.head _)).1) fun tk => ?_
  repeat' tb_rel
  repeat' tb_rel
  rename Fr _ _ _ _ => F2
  exact ret _ _ fun b x hx => F2.keep _ _ (hg1 b x hx (by simp))
theorem get_sep_c {w : World} {s : Shared} {h₀ : Heap} {mean : ExcName → Option Value} {mg mb : Str → Option Value} (X : (hd.heap_39 w.params).In h₀) (T : TT mean mg mb h₀) (st : h₀.StaysIn s.heap) {x : Str} {t : Tok} {R : Result → Shared → Prop}
  (ret : ∀ h' tk' t', Ext s.heap h' → R (.ok (.ret (.str (Str.ofString "/") t'))) { s with heap := h', toks := tk' }) :
  codeAny (MM w) (A0 500) (.call (.ref 136) ⟨[.str x t], []⟩) R s := by
  refine' enter (binds := [((Str.ofString "path"), .str x t)]) [] X T st ?a1 ?a2 ?a3 ?a4 ?a5 ?a6 ?a7 ?a8 ?a9 ?a10 ?a11
  case a2 => k_is
  case a3 => k_is
  case a1 => intro q hq; cases hq
  case a4 => decide
  case a5 => exact BindsTo.of_eq rfl
  case a6 => exact locs rfl
  case a8 => exact rfl
  case a9 => exact rfl
  case a10 => exact rfl
  case a11 => decide
  intro g L h₁ Xg Tg hg1 hg2 hlt F N
  repeat' tb_rel
  rename Fr _ _ _ _ => F1
  rename News _ _ _ _ => N1
  repeat' tb_rel
  rename Fr _ _ _ _ => F2
  exact ret _ _ _ fun b x hx => F2.keep _ _ (hg1 b x hx (by simp))
def joinS (a b : Str) : Str := if Txt.startswith b (Str.ofString "/") = true then b else if a.length = 0 then b else if Txt.endswith a (Str.ofString "/") = true then a ++ b else a ++ ((Str.ofString "/") ++ b)
theorem join_c {w : World} {s : Shared} {h₀ : Heap} {mean : ExcName → Option Value} {mg mb : Str → Option Value} (X : (hd.heap_39 w.params).In h₀) (T : TT mean mg mb h₀) (st : h₀.StaysIn s.heap) {a b : Str} {ta tb : Tok} {R : Result → Shared → Prop} (ha : a.length ≤ 4000) (hb : b.length ≤ 4000)
  (ret : ∀ h' tk' t', Ext s.heap h' → R (.ok (.ret (.str (joinS a b) t'))) { s with heap := h', toks := tk' }) :
  codeAny (MM w) (A0 480) (.call (.ref 143) ⟨[.str a ta, .str b tb], []⟩) R s := by
  refine' enter_rest (vs := [.str b tb]) (bindsD := fun D => [((Str.ofString "a"), .str a ta), ((Str.ofString "p"), .ref D)]) X T st ?a2 ?a3 ?a4 ?a5 ?a6 ?a7 ?a8 ?a9 ?a10 ?a11
  case a2 => k_is
  case a3 => k_is
  case a4 => decide
  case a5 => rfl
  case a6 => exact fun _ => locs rfl
  case a8 => exact rfl
  case a9 => exact rfl
  case a10 => exact rfl
  case a11 => decide
  intro D g L h₁ Xg Tg hg1 hD F N
  repeat' tb_rel
  rename Fr _ _ _ _ => F1
  rename News _ _ _ _ => N1
  refine call_up (n := 500) rfl (Nat.le_of_ble_eq_true rfl) (Nat.le_of_ble_eq_true rfl) ?_
  refine fspath_c Xg Tg (by exact F1.keep) fun h2 tk2 e2 => ?_
  obtain ⟨F2, N2⟩ := behind0 F1 N1 e2
  dsimp only [RV]
  repeat' tb_rel
  rename Fr _ _ _ _ => F3
  rename News _ _ _ _ => N3
  refine call_up (n := 500) rfl (Nat.le_of_ble_eq_true rfl) (Nat.le_of_ble_eq_true rfl) ?_
  refine get_sep_c Xg Tg (by exact F3.keep) fun h4 tk4 t4 e4 => ?_
  obtain ⟨F4, N4⟩ := behind0 F3 N3 e4
  dsimp only [RV]
  repeat' tb_rel
  rename Fr _ _ _ _ => F5
  rename News _ _ _ _ => N5
  refine try_ ?_
  refine cut_ (fun s' => ∃ (u : Str → Option Value) (h' : Heap) (tk' : Nat) (t : Tok), s' = { s with heap := h', toks := tk' } ∧ Fr g L h' (bd u [((Str.ofString "path"), .str (joinS a b) t)]) ∧ News g L h' []) ?_ ?_
  · refine wpAny_For ?_
    repeat' tb_rel
    rename Fr _ _ _ _ => F6
    rename News _ _ _ _ => N6
    refine iter_tuple (items := #[.str b tb]) (fun i m news => news = [] ∧ (i = 0 → ∃ u t t', m = bd u [((Str.ofString "path"), .str a t), ((Str.ofString "sep"), .str (Str.ofString "/") t')]) ∧ (i = 1 → ∃ u t, m = bd u [((Str.ofString "path"), .str (joinS a b) t)])) rfl F6 N6 (fun i m news h _ F _ => ⟨_, F.keep _ _ hD, rfl, _, rfl⟩)
      ⟨rfl, fun _ => ⟨_, _, _, (bd_eq (bdOk_all (by exact ⟨rfl, rfl, trivial⟩))).symm⟩, fun h => by cases h⟩ ?_ ?_
    · rintro i v m news h tk I io hI hv ⟨rfl, hm, _⟩ F7 N7 hn
      obtain rfl : i = 0 := by
        have := (Array.getElem?_eq_some_iff.mp hv).1
        simp at this; exact this
      obtain ⟨u, t, t', rfl⟩ := hm rfl
      obtain rfl : Value.str b tb = v := by simpa using hv
      repeat' tb_rel
      rename Fr _ _ _ _ => F8
      rename News _ _ _ _ => N8
      refine call_up (n := 500) rfl (Nat.le_of_ble_eq_true rfl) (Nat.le_of_ble_eq_true rfl) ?_
      refine fspath_c Xg Tg (by exact F8.keep) fun h9 tk9 e9 => ?_
      obtain ⟨F9, N9⟩ := behind0 F8 N8 e9
      dsimp only [RV]
      repeat' tb_start
      rename Fr _ _ _ _ => F10
      rename News _ _ _ _ => N10
      refine cut_ (fun s' => ∃ (u : Str → Option Value) (h' : Heap) (tk' : Nat) (t : Tok), s' = { s with heap := h', toks := tk' } ∧ Fr g L h' (bd u [((Str.ofString "path"), .str (joinS a b) t)]) ∧ News g L h' [(I, io)]) ?_ ?_
      · refine wpAny_If ?_
        repeat' tb_rel
        rename Fr _ _ _ _ => F11
        rename News _ _ _ _ => N11
        refine ite_b (fun c1 => ?_) (fun c1 => ?_)
        · refine ite_t (by first | trivial | rfl) ?_
          repeat' tb_rel
          rename Fr _ _ _ _ => F12
          rename News _ _ _ _ => N12
          have e : joinS a b = b := by unfold joinS; rw [if_pos c1]
          exact ⟨rfl, _, _, _, _, rfl, fr_bd F12 _ (by rw [e]; exact ⟨rfl, trivial⟩), N12⟩
        · repeat' tb_rel
          refine ite_b (fun c2 => ?_) (fun c2 => ?_)
          · refine ite_t (by first | trivial | rfl) ?_
            repeat' tb_rel
            rename Fr _ _ _ _ => F12
            rename News _ _ _ _ => N12
            have e : joinS a b = b := by unfold joinS; rw [if_neg (by simp [c1]), if_pos (by simpa using c2)]
            exact ⟨rfl, _, _, _, _, rfl, fr_bd F12 _ (by rw [e]; exact ⟨rfl, trivial⟩), N12⟩
          · have hne : ¬ a.length = 0 := by simpa using c2
            repeat' tb_rel
            refine ite_b (fun c3 => ?_) (fun c3 => ?_)
            · repeat' tb_rel
              rename Fr _ _ _ _ => F12
              rename News _ _ _ _ => N12
              have e : joinS a b = a ++ b := by unfold joinS; rw [if_neg (by simp [c1]), if_neg hne, if_pos c3]
              exact ⟨rfl, _, _, _, _, rfl, fr_bd F12 _ (by rw [e]; exact ⟨rfl, trivial⟩), N12⟩
            · repeat' tb_rel
              rename Fr _ _ _ _ => F12
              rename News _ _ _ _ => N12
              have e : joinS a b = a ++ ((Str.ofString "/") ++ b) := by unfold joinS; rw [if_neg (by simp [c1]), if_neg hne, if_neg (by simp [c3])]
              exact ⟨rfl, _, _, _, _, rfl, fr_bd F12 _ (by rw [e]; exact ⟨rfl, trivial⟩), N12⟩
      · rintro s' ⟨u, h', tk', t, rfl, F12, N12⟩
        repeat' tb_rel
        exact ⟨_, _, _, [], rfl, F12, N12, (fun _ h => nomatch h), rfl, (fun h => by cases h), fun _ => ⟨_, _, rfl⟩⟩
    · rintro m news h tk ⟨rfl, _, hm⟩ F7 N7
      obtain ⟨u, t, rfl⟩ := hm rfl
      exact ⟨rfl, _, _, _, _, rfl, F7, N7⟩
  · rintro s' ⟨u, h', tk', t, rfl, F6, N6⟩
    repeat' tb_rel
    rename Fr _ _ _ _ => F7
    exact ret _ _ _ fun b x hx => F7.keep _ _ (hg1 b x hx)
end Mine
end

section
open PySem PySem.W PyProof.Rows PySem.Calls
set_option maxRecDepth 100000
set_option maxHeartbeats 1000000
namespace Mine
local macro_rules | `(tactic| tb_rel) => `(tactic| first | (goal_has PySem.W.Frag.In; (fail_if_success (with_reducible show wpAny _ _ (call (Value.ref _) _ _) _ _ _)); walk1) | (goal_lacks PySem.W.Frag.In; (with_reducible show wpAny _ _ _ _ _ _); (fail_if_success (with_reducible show wpAny _ _ (execs (PySem.Stmt.While _ _ _ _ :: _) _) _ _ _)); (fail_if_success (with_reducible show wpAny _ _ (execs (PySem.Stmt.For _ _ _ _ _ :: _) _) _ _ _)); (fail_if_success (with_reducible show wpAny _ _ (call (Value.ref _) _ _) _ _ _)); (fail_if_success (with_reducible show wpAny _ _ (pyIter _) _ _ _)); (fail_if_success (with_reducible show wpAny _ _ (call (Value.builtin "str.split") _ _) _ _ _)); (fail_if_success (with_reducible show wpAny _ _ (call (Value.ref _) _ _) _ _ _)); (fail_if_success (with_reducible show wpAny _ _ (exec (PySem.Stmt.Try _ _ _ _ _) _) _ _ _)); first | walk1 | (dsimp only; walk1)) | ((fail_if_success (with_reducible show wpAny _ _ _ _ _ _)); (with_reducible refine Mine.ite_t (by with_reducible first | rfl | exact True.intro) ?_)) | ((fail_if_success (with_reducible show wpAny _ _ _ _ _ _)); (with_reducible refine Mine.ite_f (by decide) ?_)) | fail "no step")
local macro_rules | `(tactic| tb_start) => `(tactic| first | (goal_has PySem.W.Frag.In; (fail_if_success (with_reducible show wpAny _ _ (call (Value.ref _) _ _) _ _ _)); walk1) | (goal_lacks PySem.W.Frag.In; (with_reducible show wpAny _ _ _ _ _ _); (fail_if_success (with_reducible show wpAny _ _ (execs (PySem.Stmt.While _ _ _ _ :: _) _) _ _ _)); (fail_if_success (with_reducible show wpAny _ _ (execs (PySem.Stmt.For _ _ _ _ _ :: _) _) _ _ _)); (fail_if_success (with_reducible show wpAny _ _ (execs (PySem.Stmt.If _ _ _ _ :: _) _) _ _ _)); (fail_if_success (with_reducible show wpAny _ _ (call (Value.ref _) _ _) _ _ _)); (fail_if_success (with_reducible show wpAny _ _ (pyIter _) _ _ _)); (fail_if_success (with_reducible show wpAny _ _ (call (Value.builtin "str.split") _ _) _ _ _)); (fail_if_success (with_reducible show wpAny _ _ (call (Value.ref _) _ _) _ _ _)); (fail_if_success (with_reducible show wpAny _ _ (exec (PySem.Stmt.Try _ _ _ _ _) _) _ _ _)); first | walk1 | (dsimp only; walk1)) | ((fail_if_success (with_reducible show wpAny _ _ _ _ _ _)); (with_reducible refine Mine.ite_t (by with_reducible first | rfl | exact True.intro) ?_)) | ((fail_if_success (with_reducible show wpAny _ _ _ _ _ _)); (with_reducible refine Mine.ite_f (by decide) ?_)) | fail "no step")
def splitS (p : Str) : Str × Str :=
  if (Txt.slice p none (some 1) != (Str.ofString "/")) = true then ((Str.ofString ""), p)
  else if (Txt.slice p (some 1) (some 2) != (Str.ofString "/")) = true then ((Str.ofString "/"), Txt.slice p (some 1) none)
  else if (Txt.slice p (some 2) (some 3) == (Str.ofString "/")) = true then ((Str.ofString "/"), Txt.slice p (some 1) none)
  else (Txt.slice p none (some 2), Txt.slice p (some 2) none)
theorem splitroot_c {w : World} {s : Shared} {h₀ : Heap} {mean : ExcName → Option Value} {mg mb : Str → Option Value} (X : (hd.heap_39 w.params).In h₀) (T : TT mean mg mb h₀) (st : h₀.StaysIn s.heap) {p : Str} {tp : Tok} {R : Result → Shared → Prop} (ha : p.length ≤ 10000)
  (ret : ∀ h' tk' D t1 t2 t3, Ext s.heap h' → s.heap.get? D = none → h'.get? D = some { cls := .type "tuple", data := .seq #[.str (Str.ofString "") t1, .str (splitS p).1 t2, .str (splitS p).2 t3] } → R (.ok (.ret (.ref D))) { s with heap := h', toks := tk' }) :
  codeAny (MM w) (A0 480) (.call (.ref 150) ⟨[.str p tp], []⟩) R s := by
  refine' enter (binds := [((Str.ofString "p"), .str p tp)]) [] X T st ?a1 ?a2 ?a3 ?a4 ?a5 ?a6 ?a7 ?a8 ?a9 ?a10 ?a11
  case a2 => k_is
  case a3 => k_is
  case a1 => intro q hq; cases hq
  case a4 => decide
  case a5 => exact BindsTo.of_eq rfl
  case a6 => exact locs rfl
  case a8 => exact rfl
  case a9 => exact rfl
  case a10 => exact rfl
  case a11 => decide
  intro g L h₁ Xg Tg hg1 hg2 hlt F N
  repeat' tb_rel
  rename Fr _ _ _ _ => F1
  rename News _ _ _ _ => N1
  refine call_up (n := 500) rfl (Nat.le_of_ble_eq_true rfl) (Nat.le_of_ble_eq_true rfl) ?_
  refine fspath_c Xg Tg (by exact F1.keep) fun h2 tk2 e2 => ?_
  obtain ⟨F2, N2⟩ := behind0 F1 N1 e2
  dsimp only [RV]
  repeat' tb_rel
  rename Fr _ _ _ _ => F3
  rename News _ _ _ _ => N3
  repeat' tb_rel
  rename Fr _ _ _ _ => F4
  rename News _ _ _ _ => N4
  refine ite_b (fun c1 => ?_) (fun c1 => ?_)
  · repeat' tb_rel
    rename Fr _ _ _ _ => F5
    rename News _ _ _ _ => N5
    have e : splitS p = ((Str.ofString ""), p) := by unfold splitS; rw [if_pos c1]
    dsimp only
    exact ret _ _ _ _ _ _ (fun b x hx => F5.keep _ _ (hg1 b x hx (by simp))) (none_of hg1 (by exact (N5 _ (.head _)).2.2)) (by rw [e]; exact (N5 _ (.head _)).1)
  · repeat' tb_rel
    refine ite_b (fun c2 => ?_) (fun c2 => ?_)
    · refine ite_t (by first | trivial | rfl) ?_
      repeat' tb_rel
      rename Fr _ _ _ _ => F5
      rename News _ _ _ _ => N5
      have e : splitS p = ((Str.ofString "/"), Txt.slice p (some 1) none) := by unfold splitS; rw [if_neg (by simp [c1]), if_pos c2]
      dsimp only
      exact ret _ _ _ _ _ _ (fun b x hx => F5.keep _ _ (hg1 b x hx (by simp))) (none_of hg1 (by exact (N5 _ (.head _)).2.2)) (by rw [e]; exact (N5 _ (.head _)).1)
    · repeat' tb_rel
      refine ite_b (fun c3 => ?_) (fun c3 => ?_)
      · refine ite_t (by first | trivial | rfl) ?_
        repeat' tb_rel
        rename Fr _ _ _ _ => F5
        rename News _ _ _ _ => N5
        have e : splitS p = ((Str.ofString "/"), Txt.slice p (some 1) none) := by unfold splitS; rw [if_neg (by simp [c1]), if_neg (by simp [c2]), if_pos c3]
        dsimp only
        exact ret _ _ _ _ _ _ (fun b x hx => F5.keep _ _ (hg1 b x hx (by simp))) (none_of hg1 (by exact (N5 _ (.head _)).2.2)) (by rw [e]; exact (N5 _ (.head _)).1)
      · repeat' tb_rel
        repeat' tb_rel
        rename Fr _ _ _ _ => F5
        rename News _ _ _ _ => N5
        have e : splitS p = (Txt.slice p none (some 2), Txt.slice p (some 2) none) := by unfold splitS; rw [if_neg (by simp [c1]), if_neg (by simp [c2]), if_neg (by simp [c3])]
        dsimp only
        exact ret _ _ _ _ _ _ (fun b x hx => F5.keep _ _ (hg1 b x hx (by simp))) (none_of hg1 (by exact (N5 _ (.head _)).2.2)) (by rw [e]; exact (N5 _ (.head _)).1)
def dirS (p : Str) : Str :=
  let head := Txt.slice p none (some (Txt.rfind p (Str.ofString "/") + 1))
  if head.length = 0 then head else if (head != Txt.mul (Str.ofString "/") (head.length : Int)) = true then Txt.rstripChars head (Str.ofString "/") else head
theorem dirname_c {w : World} {s : Shared} {h₀ : Heap} {mean : ExcName → Option Value} {mg mb : Str → Option Value} (X : (hd.heap_39 w.params).In h₀) (T : TT mean mg mb h₀) (st : h₀.StaysIn s.heap) {p : Str} {tp : Tok} {R : Result → Shared → Prop} (ha : p.length ≤ 10000)
  (ret : ∀ h' tk' t', Ext s.heap h' → R (.ok (.ret (.str (dirS p) t'))) { s with heap := h', toks := tk' }) :
  codeAny (MM w) (A0 480) (.call (.ref 157) ⟨[.str p tp], []⟩) R s := by
  refine' enter (binds := [((Str.ofString "p"), .str p tp)]) [] X T st ?a1 ?a2 ?a3 ?a4 ?a5 ?a6 ?a7 ?a8 ?a9 ?a10 ?a11
  case a2 => k_is
  case a3 => k_is
  case a1 => intro q hq; cases hq
  case a4 => decide
  case a5 => exact BindsTo.of_eq rfl
  case a6 => exact locs rfl
  case a8 => exact rfl
  case a9 => exact rfl
  case a10 => exact rfl
  case a11 => decide
  intro g L h₁ Xg Tg hg1 hg2 hlt F N
  repeat' tb_rel
  rename Fr _ _ _ _ => F1
  rename News _ _ _ _ => N1
  refine call_up (n := 500) rfl (Nat.le_of_ble_eq_true rfl) (Nat.le_of_ble_eq_true rfl) ?_
  refine fspath_c Xg Tg (by exact F1.keep) fun h2 tk2 e2 => ?_
  obtain ⟨F2, N2⟩ := behind0 F1 N1 e2
  dsimp only [RV]
  repeat' tb_rel
  rename Fr _ _ _ _ => F3
  rename News _ _ _ _ => N3
  refine call_up (n := 500) rfl (Nat.le_of_ble_eq_true rfl) (Nat.le_of_ble_eq_true rfl) ?_
  refine get_sep_c Xg Tg (by exact F3.keep) fun h4 tk4 t4 e4 => ?_
  obtain ⟨F4, N4⟩ := behind0 F3 N3 e4
  dsimp only [RV]
  repeat' tb_rel
  rename Fr _ _ _ _ => F5
  rename News _ _ _ _ => N5
  refine ite_b (fun c1 => ?_) (fun c1 => ?_)
  · repeat' tb_rel
    refine ite_b (fun c2 => ?_) (fun c2 => ?_)
    · repeat' tb_rel
      repeat' tb_rel
      rename Fr _ _ _ _ => F6
      have e : dirS p = Txt.rstripChars (Txt.slice p none (some (Txt.rfind p (Str.ofString "/") + 1))) (Str.ofString "/") := by
        unfold dirS
        rw [if_neg (by simpa using c1), if_pos c2]
      dsimp only
      rw [← e]
      exact ret _ _ _ (fun b x hx => F6.keep _ _ (hg1 b x hx (by simp)))
    · repeat' tb_rel
      repeat' tb_rel
      rename Fr _ _ _ _ => F6
      have e : dirS p = Txt.slice p none (some (Txt.rfind p (Str.ofString "/") + 1)) := by
        unfold dirS
        by_cases h : (Txt.slice p none (some (Txt.rfind p (Str.ofString "/") + 1))).length = 0
        · rw [if_pos h]
        · rw [if_neg h, if_neg (by simp [c2])]
      dsimp only
      rw [← e]
      exact ret _ _ _ (fun b x hx => F6.keep _ _ (hg1 b x hx (by simp)))
  · repeat' tb_rel
    repeat' tb_rel
    rename Fr _ _ _ _ => F6
    have e : dirS p = Txt.slice p none (some (Txt.rfind p (Str.ofString "/") + 1)) := by unfold dirS; rw [if_pos (by simpa using c1)]
    dsimp only
    rw [← e]
    exact ret _ _ _ (fun b x hx => F6.keep _ _ (hg1 b x hx (by simp)))
end Mine
end

section
open PySem PySem.W PyProof.Rows PySem.Calls
set_option maxRecDepth 100000
set_option maxHeartbeats 1000000
namespace Mine
local macro_rules | `(tactic| tb_rel) => `(tactic| first | (goal_has PySem.W.Frag.In; (fail_if_success (with_reducible show wpAny _ _ (call (Value.ref _) _ _) _ _ _)); walk1) | (goal_lacks PySem.W.Frag.In; (with_reducible show wpAny _ _ _ _ _ _); (fail_if_success (with_reducible show wpAny _ _ (execs (PySem.Stmt.While _ _ _ _ :: _) _) _ _ _)); (fail_if_success (with_reducible show wpAny _ _ (execs (PySem.Stmt.For _ _ _ _ _ :: _) _) _ _ _)); (fail_if_success (with_reducible show wpAny _ _ (call (Value.ref _) _ _) _ _ _)); (fail_if_success (with_reducible show wpAny _ _ (pyIter _) _ _ _)); (fail_if_success (with_reducible show wpAny _ _ (call (Value.builtin "str.split") _ _) _ _ _)); (fail_if_success (with_reducible show wpAny _ _ (call (Value.ref _) _ _) _ _ _)); (fail_if_success (with_reducible show wpAny _ _ (exec (PySem.Stmt.Try _ _ _ _ _) _) _ _ _)); (fail_if_success (with_reducible show wpAny _ _ (truthy (Value.ref _)) _ _ _)); (fail_if_success (with_reducible show wpAny _ _ (subscriptTail _ _ (Value.ref _) _) _ _ _)); (fail_if_success (with_reducible show wpAny _ _ (call (Value.builtin "str.join") _ _) _ _ _)); (fail_if_success (with_reducible show wpAny _ _ (call (Value.builtin "list.pop") _ _) _ _ _)); first | walk1 | (dsimp only; walk1)) | ((fail_if_success (with_reducible show wpAny _ _ _ _ _ _)); (with_reducible refine Mine.ite_t (by with_reducible first | rfl | exact True.intro) ?_)) | ((fail_if_success (with_reducible show wpAny _ _ _ _ _ _)); (with_reducible refine Mine.ite_f (by decide) ?_)) | fail "no step")
local macro_rules | `(tactic| tb_start) => `(tactic| first | (goal_has PySem.W.Frag.In; (fail_if_success (with_reducible show wpAny _ _ (call (Value.ref _) _ _) _ _ _)); walk1) | (goal_lacks PySem.W.Frag.In; (with_reducible show wpAny _ _ _ _ _ _); (fail_if_success (with_reducible show wpAny _ _ (execs (PySem.Stmt.While _ _ _ _ :: _) _) _ _ _)); (fail_if_success (with_reducible show wpAny _ _ (execs (PySem.Stmt.For _ _ _ _ _ :: _) _) _ _ _)); (fail_if_success (with_reducible show wpAny _ _ (execs (PySem.Stmt.If _ _ _ _ :: _) _) _ _ _)); (fail_if_success (with_reducible show wpAny _ _ (call (Value.ref _) _ _) _ _ _)); (fail_if_success (with_reducible show wpAny _ _ (pyIter _) _ _ _)); (fail_if_success (with_reducible show wpAny _ _ (call (Value.builtin "str.split") _ _) _ _ _)); (fail_if_success (with_reducible show wpAny _ _ (call (Value.ref _) _ _) _ _ _)); (fail_if_success (with_reducible show wpAny _ _ (exec (PySem.Stmt.Try _ _ _ _ _) _) _ _ _)); (fail_if_success (with_reducible show wpAny _ _ (truthy (Value.ref _)) _ _ _)); (fail_if_success (with_reducible show wpAny _ _ (subscriptTail _ _ (Value.ref _) _) _ _ _)); (fail_if_success (with_reducible show wpAny _ _ (call (Value.builtin "str.join") _ _) _ _ _)); (fail_if_success (with_reducible show wpAny _ _ (call (Value.builtin "list.pop") _ _) _ _ _)); first | walk1 | (dsimp only; walk1)) | ((fail_if_success (with_reducible show wpAny _ _ _ _ _ _)); (with_reducible refine Mine.ite_t (by with_reducible first | rfl | exact True.intro) ?_)) | ((fail_if_success (with_reducible show wpAny _ _ _ _ _ _)); (with_reducible refine Mine.ite_f (by decide) ?_)) | fail "no step")
def nstep (acc : List Str) (c : Str) : List Str :=
  if c.length = 0 then acc else if c = (Str.ofString ".") then acc else if c = (Str.ofString "..") then acc.dropLast else acc ++ [c]
def ncomps (p : Str) : List Str := (Txt.split (splitS p).2 (Str.ofString "/")).foldl nstep []
def normS (p : Str) : Str := (Str.ofString "/") ++ Txt.join (Str.ofString "/") (ncomps p)
theorem normpath_c {w : World} {s : Shared} {h₀ : Heap} {mean : ExcName → Option Value} {mg mb : Str → Option Value} (X : (hd.heap_39 w.params).In h₀) (T : TT mean mg mb h₀) (st : h₀.StaysIn s.heap) {p : Str} {tp : Tok} {R : Result → Shared → Prop} (ha : p.length ≤ 10000) (h1 : ¬ p.length = 0) (hroot : (splitS p).1 = (Str.ofString "/")) (hs : Hid ((splitS p).2.length ≤ 10000)) (hcnt : Hid ((Txt.split (splitS p).2 (Str.ofString "/")).length ≤ 10000))
  (hfit : Hid (((ncomps p).map (·.length)).sum + (ncomps p).length ≤ 10000))
  (hfit2 : Hid ((Txt.join (Str.ofString "/") (ncomps p)).length ≤ 10000))
  (ret : ∀ h' tk' t', Ext s.heap h' → R (.ok (.ret (.str (normS p) t'))) { s with heap := h', toks := tk' }) :
  codeAny (MM w) (A0 460) (.call (.ref 164) ⟨[.str p tp], []⟩) R s := by
  refine' enter (binds := [((Str.ofString "path"), .str p tp)]) [] X T st ?a1 ?a2 ?a3 ?a4 ?a5 ?a6 ?a7 ?a8 ?a9 ?a10 ?a11
  case a2 => k_is
  case a3 => k_is
  case a1 => intro q hq; cases hq
  case a4 => decide
  case a5 => exact BindsTo.of_eq rfl
  case a6 => exact locs rfl
  case a8 => exact rfl
  case a9 => exact rfl
  case a10 => exact rfl
  case a11 => decide
  intro g L h₁ Xg Tg hg1 hg2 hlt F N
  repeat' tb_rel
  rename Fr _ _ _ _ => F1
  rename News _ _ _ _ => N1
  refine call_up (n := 500) rfl (Nat.le_of_ble_eq_true rfl) (Nat.le_of_ble_eq_true rfl) ?_
  refine fspath_c Xg Tg (by exact F1.keep) fun h2 tk2 e2 => ?_
  obtain ⟨F2, N2⟩ := behind0 F1 N1 e2
  dsimp only [RV]
  repeat' tb_rel
  rename Fr _ _ _ _ => F3
  rename News _ _ _ _ => N3
  repeat' tb_rel
  rename Fr _ _ _ _ => F4
  rename News _ _ _ _ => N4
  refine ite_b (fun c1 => ?_) (fun c1 => ?_)
  · exact absurd (by simpa using c1) h1
  · repeat' tb_rel
    rename Fr _ _ _ _ => F5
    rename News _ _ _ _ => N5
    refine call_up (n := 480) rfl (Nat.le_of_ble_eq_true rfl) (Nat.le_of_ble_eq_true rfl) ?_
    refine splitroot_c Xg Tg (by exact F5.keep) ha fun h6 tk6 D t1 t2 t3 e6 hf hD => ?_
    obtain ⟨F6, N6, nD⟩ := behindN F5 N5 e6 hD hf
    dsimp only [RV]
    rw [hroot] at N6
    repeat' tb_rel
    rename Fr _ _ _ _ => F7
    rename News _ _ _ _ => N7
    refine split_at F7 N7 rfl (Nat.le_trans hs.out (by decide)) fun lc vs h8 k8 hS l8 F8 N8 => ?_
    (try clear F7 N7)
    repeat' tb_rel
    rename Fr _ _ _ _ => F9
    rename News _ _ _ _ => N9
    rename Addr => nc
    rename lc < nc ∧ D < nc => l9
    have hlen : vs.length = (Txt.split (splitS p).2 (Str.ofString "/")).length := hS.length
    refine cut_ (fun s' => ∃ (u : Str → Option Value) (h' : Heap) (tk' : Nat) (ts td ti : Tok) (ws : List Value) (n : Nat), s' = { s with heap := h', toks := tk' } ∧ Fr g L h' (bd u [((Str.ofString "sep"), .str (Str.ofString "/") ts), ((Str.ofString "dot"), .str (Str.ofString ".") td), ((Str.ofString "initial_slashes"), .str (Str.ofString "/") ti), ((Str.ofString "new_comps"), .ref nc)]) ∧
      News g L h' [(nc, listOf ws.toArray n)] ∧ StrsAre ws (ncomps p)) ?_ ?_
    · refine wpAny_For ?_
      repeat' tb_rel
      rename Fr _ _ _ _ => F10
      rename News _ _ _ _ => N10
      refine iter_list (items := vs.toArray) (fun i m news => ∃ (u : Str → Option Value) (ts td tdd ti : Tok) (ws : List Value) (n : Nat) (acc : List Str),
        m = bd u [((Str.ofString "sep"), .str (Str.ofString "/") ts), ((Str.ofString "dot"), .str (Str.ofString ".") td), ((Str.ofString "dotdot"), .str (Str.ofString "..") tdd), ((Str.ofString "initial_slashes"), .str (Str.ofString "/") ti), ((Str.ofString "new_comps"), .ref nc)] ∧ news = [(nc, listOf ws.toArray n), (lc, listOf vs.toArray 0)] ∧ StrsAre ws acc ∧ acc.length ≤ i ∧
        acc = ((Txt.split (splitS p).2 (Str.ofString "/")).take i).foldl nstep [] ∧ ∀ a ∈ acc, a ≠ (Str.ofString "..")) rfl F10 (fun q hq => N10 q (by
          rcases List.mem_cons.mp hq with rfl | hq
          · exact .head _
          · rcases List.mem_cons.mp hq with rfl | hq
            · exact .tail _ (.head _)
            · cases hq)) (fun i m news h ⟨_, _, _, _, _, _, _, _, _, e, _⟩ _ N => by subst e; exact list_of N (.tail _ (.head _)))
        ⟨_, _, _, _, _, [], 0, [], (bd_eq (bdOk_all (by exact ⟨rfl, rfl, rfl, rfl, rfl, trivial⟩))).symm, rfl, .nil, Nat.le_refl _, rfl, fun _ h => nomatch h⟩ ?_ ?_
      · rintro i v m news h tk I io hI hv ⟨u, ts, td, tdd, ti, ws, n, acc, rfl, rfl, hW, hai, ha1, ha2⟩ F11 N11 hn
        have hiv : i < vs.length := by
          have := (Array.getElem?_eq_some_iff.mp hv).1
          simpa using this
        obtain ⟨c, t, rfl, hc⟩ := hS.item i v (by simpa using hv)
        have hstep : ((Txt.split (splitS p).2 (Str.ofString "/")).take (i + 1)).foldl nstep [] = nstep acc c := by
          rw [List.take_add_one, hc, ha1]; simp
        have hI1 := neN <| hn (nc, listOf ws.toArray n) (.head _)
        have hI2 := neN <| hn (lc, listOf vs.toArray 0) (.tail _ (.head _))
        have hws : ws.length ≤ 10000 := by
          have h1 := hW.length
          have h2 := hcnt.out
          omega
        have hcl : c.length ≤ 10000 := Nat.le_trans (part_short (List.mem_of_getElem? hc)) hs.out
        have fin : ∀ h' tk' m' ws' n', Fr g L h' m' → bdOk m' [((Str.ofString "sep"), .str (Str.ofString "/") ts), ((Str.ofString "dot"), .str (Str.ofString ".") td), ((Str.ofString "dotdot"), .str (Str.ofString "..") tdd), ((Str.ofString "initial_slashes"), .str (Str.ofString "/") ti), ((Str.ofString "new_comps"), .ref nc)] →
            News g L h' [(I, io), (nc, listOf ws'.toArray n'), (lc, listOf vs.toArray 0)] → StrsAre ws' (nstep acc c) →
            TurnEnd g L I io ((fun (i : Nat) (m : Str → Option Value) (news : List (Addr × Obj)) => ∃ (u : Str → Option Value) (ts td tdd ti : Tok) (ws : List Value) (n : Nat) (acc : List Str),
              m = bd u [((Str.ofString "sep"), .str (Str.ofString "/") ts), ((Str.ofString "dot"), .str (Str.ofString ".") td), ((Str.ofString "dotdot"), .str (Str.ofString "..") tdd), ((Str.ofString "initial_slashes"), .str (Str.ofString "/") ti), ((Str.ofString "new_comps"), .ref nc)] ∧ news = [(nc, listOf ws.toArray n), (lc, listOf vs.toArray 0)] ∧ StrsAre ws acc ∧ acc.length ≤ i ∧
              acc = ((Txt.split (splitS p).2 (Str.ofString "/")).take i).foldl nstep [] ∧ ∀ a ∈ acc, a ≠ (Str.ofString "..")) (i + 1)) { s with heap := h, toks := tk } { s with heap := h', toks := tk' } := by
          intro h' tk' m' ws' n' F ok N hW'
          refine ⟨h', tk', _, _, rfl, fr_bd F _ ok, N, ?_, ⟨_, _, _, _, _, ws', n', nstep acc c, rfl, rfl, hW', ?_, hstep.symm, ?_⟩⟩
          · intro q hq
            rcases List.mem_cons.mp hq with rfl | hq
            · exact hn (nc, listOf ws.toArray n) (.head _)
            · rcases List.mem_cons.mp hq with rfl | hq
              · exact hn _ (.tail _ (.head _))
              · cases hq
          · unfold nstep
            repeat' split
            all_goals first | omega | (simp; omega)
          · intro a ha
            unfold nstep at ha
            split at ha
            · exact ha2 a ha
            · split at ha
              · exact ha2 a ha
              · split at ha
                · exact ha2 a ((List.dropLast_sublist _).subset ha)
                · rcases List.mem_append.mp ha with ha | ha
                  · exact ha2 a ha
                  · simp at ha; subst ha; assumption
        repeat' tb_rel
        rename Fr _ _ _ _ => F12
        rename News _ _ _ _ => N12
        refine ite_b (fun k1 => ?_) (fun k1 => ?_)
        · refine ite_t (by first | trivial | rfl) ?_
          repeat' tb_rel
          rename Fr _ _ _ _ => F13
          rename News _ _ _ _ => N13
          dsimp only
          refine fin _ _ _ ws n F13 ⟨rfl, rfl, rfl, rfl, rfl, trivial⟩ N13 ?_
          have e : nstep acc c = acc := by unfold nstep; rw [if_pos (by simpa using k1)]
          rw [e]; exact hW
        · have k1' : ¬ c.length = 0 := by simpa using k1
          repeat' tb_rel
          refine ite_b (fun k2 => ?_) (fun k2 => ?_)
          · refine ite_t (by first | trivial | rfl) ?_
            repeat' tb_rel
            rename Fr _ _ _ _ => F13
            rename News _ _ _ _ => N13
            dsimp only
            refine fin _ _ _ ws n F13 ⟨rfl, rfl, rfl, rfl, rfl, trivial⟩ N13 ?_
            have e : nstep acc c = acc := by unfold nstep; rw [if_neg k1', if_pos (by simpa using k2)]
            rw [e]; exact hW
          · have k2' : ¬ c = (Str.ofString ".") := by simpa using k2
            repeat' tb_rel
            refine ite_b (fun k3 => ?_) (fun k3 => ?_)
            · refine ite_t (by first | trivial | rfl) ?_
              repeat' tb_rel
              rename Fr _ _ _ _ => F13
              rename News _ _ _ _ => N13
              (try dsimp only)
              have e : nstep acc c = acc ++ [c] := by unfold nstep; rw [if_neg k1', if_neg k2', if_neg (by simpa using k3)]
              have e2 : ws.toArray.push (Value.str c t) = (ws ++ [Value.str c t]).toArray := by simp
              rw [e2] at N13
              exact fin _ _ _ _ _ F13 ⟨rfl, rfl, rfl, rfl, rfl, trivial⟩ N13 (by rw [e]; exact hW.append' (.cons _ _ .nil))
            · have k3' : c = (Str.ofString "..") := by simpa using k3
              repeat' tb_rel
              repeat' tb_rel
              rename Fr _ _ _ _ => F13
              rename News _ _ _ _ => N13
              refine wpAny_truthy_list (items := ws.toArray) (by exact list_of N13 (.tail _ (.head _))) (by rw [List.size_toArray]; omega) ?_
              refine ite_b (fun k4 => ?_) (fun k4 => ?_)
              · have hne : acc ≠ [] := by
                  rintro rfl
                  cases hW
                  simp at k4
                obtain ⟨acc0, d, rfl⟩ : ∃ acc0 d, acc = acc0 ++ [d] := ⟨acc.dropLast, acc.getLast hne, (List.dropLast_concat_getLast hne).symm⟩
                obtain ⟨td2, hd2⟩ := hW.get acc0.length d (by simp)
                have hwl := hW.length
                rw [List.length_append, List.length_singleton] at hwl
                repeat' tb_rel
                rename Fr _ _ _ _ => F14
                rename News _ _ _ _ => N14
                refine item_last (items := ws.toArray) (v := .str d td2) (by exact list_of N14 (.tail _ (.head _))) (by rw [List.size_toArray]; omega) (by rw [List.size_toArray, hwl]; simpa using hd2) ?_
                repeat' tb_rel
                refine ite_b (fun k5 => ?_) (fun k5 => ?_)
                · exact absurd (by simpa using k5) (ha2 d (by simp))
                · repeat' tb_rel
                  repeat' tb_rel
                  rename Fr _ _ _ _ => F15
                  rename News _ _ _ _ => N15
                  refine wpAny_truthy_list (items := ws.toArray) (by exact list_of N15 (.tail _ (.head _))) (by rw [List.size_toArray]; omega) ?_
                  refine ite_t (by rw [← k4]) ?_
                  repeat' tb_rel
                  rename Fr _ _ _ _ => F16
                  rename News _ _ _ _ => N16
                  obtain ⟨w0, rfl, hW0⟩ : ∃ w0, ws = w0 ++ [Value.str d td2] ∧ StrsAre w0 acc0 := by
                    have h1 : ws[acc0.length]? = some (Value.str d td2) := hd2
                    have h2 : ws.take (acc0.length + 1) = ws := List.take_of_length_le (by omega)
                    rw [List.take_add_one, h1] at h2
                    refine ⟨ws.take acc0.length, h2.symm, ?_⟩
                    have h3 := hW.take' acc0.length
                    rwa [List.take_left'] at h3
                    rfl
                  refine kl_pop (p := w0) (y := Value.str d td2) F16 N16 (by show kl_last (w0 ++ [Value.str d td2]).toArray.toList = _; rw [List.toList_toArray, kpa_last]) (.tail (by exact hI1.symm) (.head (by intro q hq; rcases List.mem_cons.mp hq with rfl | hq; exact Nat.ne_of_lt l9.1; cases hq))) (by rw [sizeLine_eq]; simp at hws ⊢; omega) (fun h17 F17 N17 => ?_)
                  (try clear F16 N16)
                  repeat' tb_rel
                  rename Fr _ _ _ _ => F18
                  rename News _ _ _ _ => N18
                  (try dsimp only)
                  have e : nstep (acc0 ++ [d]) c = acc0 := by unfold nstep; rw [if_neg k1', if_neg k2', if_pos k3']; simp
                  exact fin _ _ _ w0 _ F18 ⟨rfl, rfl, rfl, rfl, rfl, trivial⟩ N18 (by rw [e]; exact hW0)
              · have hnil : ws = [] := by
                  cases ws with
                  | nil => rfl
                  | cons => simp at k4
                subst hnil
                have hacc : acc = [] := by cases hW; rfl
                subst hacc
                repeat' tb_rel
                rename Fr _ _ _ _ => F14
                rename News _ _ _ _ => N14
                refine wpAny_truthy_list (items := #[]) (by exact list_of N14 (.tail _ (.head _))) (by simp) ?_
                repeat' tb_rel
                rename Fr _ _ _ _ => F15
                rename News _ _ _ _ => N15
                (try dsimp only)
                have e : nstep [] c = [] := by unfold nstep; rw [if_neg k1', if_neg k2', if_pos k3']; rfl
                exact fin _ _ _ [] _ F15 ⟨rfl, rfl, rfl, rfl, rfl, trivial⟩ N15 (by rw [e]; exact hW)
      · rintro m news h tk ⟨u, ts, td, tdd, ti, ws, n, acc, rfl, rfl, hW, hai, ha1, ha2⟩ F11 N11
        refine ⟨rfl, _, _, _, _, _, _, ws, n, rfl, fr_bd F11 _ ⟨rfl, rfl, rfl, rfl, trivial⟩, fun q hq => N11 q ?_, ?_⟩
        · rcases List.mem_cons.mp hq with rfl | hq
          · exact .head _
          · cases hq
        · unfold ncomps
          rw [List.take_of_length_le (by simp [hlen])] at ha1
          rw [← ha1]; exact hW
    · rintro s' ⟨u, h', tk', ts, td, ti, ws, n, rfl, F11, N11, hW⟩
      repeat' tb_rel
      rename Fr _ _ _ _ => F12
      rename News _ _ _ _ => N12
      refine join_list (items := ws.toArray) (ys := ncomps p) (by exact list_of N12 (.head _)) (by simpa using hW) (by have h1 := hfit.out; have h2 : (Str.length (Str.ofString "/")) = 1 := (by decide); rw [h2]; omega) fun t9 k9 => ?_
      have hjl := hfit2.out
      repeat' tb_rel
      rename Fr _ _ _ _ => F13
      (try dsimp only)
      exact ret _ _ _ (fun b x hx => F13.keep _ _ (hg1 b x hx (by simp)))
end Mine
end

section
open PySem PySem.W PyProof.Rows PySem.Calls
set_option maxRecDepth 100000
set_option maxHeartbeats 1000000
namespace Mine
local macro_rules | `(tactic| tb_rel) => `(tactic| first | (goal_has PySem.W.Frag.In; (fail_if_success (with_reducible show wpAny _ _ (call (Value.ref _) _ _) _ _ _)); walk1) | (goal_lacks PySem.W.Frag.In; (with_reducible show wpAny _ _ _ _ _ _); (fail_if_success (with_reducible show wpAny _ _ (execs (PySem.Stmt.While _ _ _ _ :: _) _) _ _ _)); (fail_if_success (with_reducible show wpAny _ _ (execs (PySem.Stmt.For _ _ _ _ _ :: _) _) _ _ _)); (fail_if_success (with_reducible show wpAny _ _ (call (Value.ref _) _ _) _ _ _)); (fail_if_success (with_reducible show wpAny _ _ (pyIter _) _ _ _)); (fail_if_success (with_reducible show wpAny _ _ (call (Value.builtin "str.split") _ _) _ _ _)); (fail_if_success (with_reducible show wpAny _ _ (call (Value.ref _) _ _) _ _ _)); (fail_if_success (with_reducible show wpAny _ _ (exec (PySem.Stmt.Try _ _ _ _ _) _) _ _ _)); (fail_if_success (with_reducible show wpAny _ _ (call (Value.builtin "str.replace") _ _) _ _ _)); first | walk1 | (dsimp only; walk1)) | ((fail_if_success (with_reducible show wpAny _ _ _ _ _ _)); (with_reducible refine Mine.ite_t (by with_reducible first | rfl | exact True.intro) ?_)) | ((fail_if_success (with_reducible show wpAny _ _ _ _ _ _)); (with_reducible refine Mine.ite_f (by decide) ?_)) | fail "no step")
local macro_rules | `(tactic| tb_start) => `(tactic| first | (goal_has PySem.W.Frag.In; (fail_if_success (with_reducible show wpAny _ _ (call (Value.ref _) _ _) _ _ _)); walk1) | (goal_lacks PySem.W.Frag.In; (with_reducible show wpAny _ _ _ _ _ _); (fail_if_success (with_reducible show wpAny _ _ (execs (PySem.Stmt.While _ _ _ _ :: _) _) _ _ _)); (fail_if_success (with_reducible show wpAny _ _ (execs (PySem.Stmt.For _ _ _ _ _ :: _) _) _ _ _)); (fail_if_success (with_reducible show wpAny _ _ (execs (PySem.Stmt.If _ _ _ _ :: _) _) _ _ _)); (fail_if_success (with_reducible show wpAny _ _ (call (Value.ref _) _ _) _ _ _)); (fail_if_success (with_reducible show wpAny _ _ (pyIter _) _ _ _)); (fail_if_success (with_reducible show wpAny _ _ (call (Value.builtin "str.split") _ _) _ _ _)); (fail_if_success (with_reducible show wpAny _ _ (call (Value.ref _) _ _) _ _ _)); (fail_if_success (with_reducible show wpAny _ _ (exec (PySem.Stmt.Try _ _ _ _ _) _) _ _ _)); (fail_if_success (with_reducible show wpAny _ _ (call (Value.builtin "str.replace") _ _) _ _ _)); first | walk1 | (dsimp only; walk1)) | ((fail_if_success (with_reducible show wpAny _ _ _ _ _ _)); (with_reducible refine Mine.ite_t (by with_reducible first | rfl | exact True.intro) ?_)) | ((fail_if_success (with_reducible show wpAny _ _ _ _ _ _)); (with_reducible refine Mine.ite_f (by decide) ?_)) | fail "no step")
def rep (x c r : Str) : Str := if (!(Builtin.Str.occurrences x c 0 x.length 1).isEmpty) = true then Txt.replace x c r else x
def esc (l : List (Str × Str)) (x : Str) : Str := l.foldl (fun x p => rep x p.1 p.2) x
def tab35 : List (Str × Str) := [((Str.ofString "&"), (Str.ofString "&amp;")), ((Str.ofString "<"), (Str.ofString "&lt;")), ((Str.ofString ">"), (Str.ofString "&gt;")), ((Str.ofString "\""), (Str.ofString "&quot;")), ((Str.ofString "\r"), (Str.ofString "&#13;")), ((Str.ofString "\n"), (Str.ofString "&#10;")), ((Str.ofString "\t"), (Str.ofString "&#09;"))]
def tab42 : List (Str × Str) := [((Str.ofString "&"), (Str.ofString "&amp;")), ((Str.ofString ">"), (Str.ofString "&gt;")), ((Str.ofString "\""), (Str.ofString "&quot;"))]
def tab49 : List (Str × Str) := [((Str.ofString "&"), (Str.ofString "&amp;")), ((Str.ofString "<"), (Str.ofString "&lt;")), ((Str.ofString "\""), (Str.ofString "&quot;")), ((Str.ofString "\t"), (Str.ofString "&#x9;")), ((Str.ofString "\n"), (Str.ofString "&#xA;")), ((Str.ofString "\r"), (Str.ofString "&#xD;"))]
theorem esc35_c {w : World} {s : Shared} {h₀ : Heap} {mean : ExcName → Option Value} {mg mb : Str → Option Value} (X : (hd.heap_39 w.params).In h₀) (T : TT mean mg mb h₀) (st : h₀.StaysIn s.heap) {x : Str} {t : Tok} {R : Result → Shared → Prop} (ha : Hid (∀ k, k ≤ 7 → (esc (tab35.take k) x).length ≤ 1000))
  (ret : ∀ h' tk' t', Ext s.heap h' → R (.ok (.ret (.str (esc tab35 x) t'))) { s with heap := h', toks := tk' }) :
  codeAny (MM w) (A0 500) (.call (.ref 35) ⟨[.str x t], []⟩) R s := by
  refine' enter (binds := [((Str.ofString "text"), .str x t)]) [] X T st ?a1 ?a2 ?a3 ?a4 ?a5 ?a6 ?a7 ?a8 ?a9 ?a10 ?a11
  case a2 => k_is
  case a3 => k_is
  case a1 => intro q hq; cases hq
  case a4 => decide
  case a5 => exact BindsTo.of_eq rfl
  case a6 => exact locs rfl
  case a8 => exact rfl
  case a9 => exact rfl
  case a10 => exact rfl
  case a11 => decide
  intro g L h₁ Xg Tg hg1 hg2 hlt F N
  refine wpAny_execs_cons (try_ ?_)
  have F0' := fr_bd F [((Str.ofString "text"), .str x t)] ⟨rfl, trivial⟩
  clear F
  rename Fr _ _ _ _ => F
  have b0 := ha.out 0 (by decide)
  have e0 : rep x (Str.ofString "&") (Str.ofString "&amp;") = (esc (tab35.take 1) x) := rfl
  have b0' : x.length ≤ 1000 := b0
  refine cutT_ (fun s' => ∃ (u : Str → Option Value) (h' : Heap) (tk' : Nat) (t' : Tok), s' = { s with heap := h', toks := tk' } ∧ Fr g L h' (bd u [((Str.ofString "text"), .str (rep x (Str.ofString "&") (Str.ofString "&amp;")) t')])) (by simp) ?_ ?_
  · refine wpAny_If ?_
    repeat' tb_rel
    refine ite_b (fun c => ?_) (fun c => ?_)
    · refine wpAny_execs_cons (wpAny_Assign_Name ?_)
      repeat' tb_rel
      (try dsimp only)
      refine SC.replaceW (by k_ne) (by k_ne) (by k_ne) (by decide) (by omega) (by decide) fun t9 k9 => ?_
      repeat' tb_rel
      rename Fr _ _ _ _ => F2
      have e : rep x (Str.ofString "&") (Str.ofString "&amp;") = Txt.replace x (Str.ofString "&") (Str.ofString "&amp;") := by unfold rep; rw [if_pos c]
      exact ⟨rfl, _, _, _, _, rfl, fr_bd F2 _ (by rw [e]; exact ⟨rfl, trivial⟩)⟩
    · repeat' tb_rel
      rename Fr _ _ _ _ => F2
      have e : rep x (Str.ofString "&") (Str.ofString "&amp;") = x := by unfold rep; rw [if_neg (by simp [c])]
      exact ⟨rfl, _, _, _, _, rfl, fr_bd F2 _ (by rw [e]; exact ⟨rfl, trivial⟩)⟩
  rintro s' ⟨u, h', tk', t', rfl, F⟩ ht
  dsimp only at ht
  rw [e0] at F
  have b1 := ha.out 1 (by decide)
  have e1 : rep (esc (tab35.take 1) x) (Str.ofString "<") (Str.ofString "&lt;") = (esc (tab35.take 2) x) := rfl
  generalize (esc (tab35.take 1) x) = x1 at *
  refine cutT_ (fun s' => ∃ (u : Str → Option Value) (h' : Heap) (tk' : Nat) (t' : Tok), s' = { s with heap := h', toks := tk' } ∧ Fr g L h' (bd u [((Str.ofString "text"), .str (rep x1 (Str.ofString "<") (Str.ofString "&lt;")) t')])) (ht) ?_ ?_
  · refine wpAny_If ?_
    repeat' tb_rel
    refine ite_b (fun c => ?_) (fun c => ?_)
    · refine wpAny_execs_cons (wpAny_Assign_Name ?_)
      repeat' tb_rel
      (try dsimp only)
      refine SC.replaceW (by k_ne) (by k_ne) (by k_ne) (by decide) (by omega) (by decide) fun t9 k9 => ?_
      repeat' tb_rel
      rename Fr _ _ _ _ => F2
      have e : rep x1 (Str.ofString "<") (Str.ofString "&lt;") = Txt.replace x1 (Str.ofString "<") (Str.ofString "&lt;") := by unfold rep; rw [if_pos c]
      exact ⟨rfl, _, _, _, _, rfl, fr_bd F2 _ (by rw [e]; exact ⟨rfl, trivial⟩)⟩
    · repeat' tb_rel
      rename Fr _ _ _ _ => F2
      have e : rep x1 (Str.ofString "<") (Str.ofString "&lt;") = x1 := by unfold rep; rw [if_neg (by simp [c])]
      exact ⟨rfl, _, _, _, _, rfl, fr_bd F2 _ (by rw [e]; exact ⟨rfl, trivial⟩)⟩
  rintro s' ⟨u, h', tk', t', rfl, F⟩ ht
  dsimp only at ht
  rw [e1] at F
  have b2 := ha.out 2 (by decide)
  have e2 : rep (esc (tab35.take 2) x) (Str.ofString ">") (Str.ofString "&gt;") = (esc (tab35.take 3) x) := rfl
  generalize (esc (tab35.take 2) x) = x2 at *
  refine cutT_ (fun s' => ∃ (u : Str → Option Value) (h' : Heap) (tk' : Nat) (t' : Tok), s' = { s with heap := h', toks := tk' } ∧ Fr g L h' (bd u [((Str.ofString "text"), .str (rep x2 (Str.ofString ">") (Str.ofString "&gt;")) t')])) (ht) ?_ ?_
  · refine wpAny_If ?_
    repeat' tb_rel
    refine ite_b (fun c => ?_) (fun c => ?_)
    · refine wpAny_execs_cons (wpAny_Assign_Name ?_)
      repeat' tb_rel
      (try dsimp only)
      refine SC.replaceW (by k_ne) (by k_ne) (by k_ne) (by decide) (by omega) (by decide) fun t9 k9 => ?_
      repeat' tb_rel
      rename Fr _ _ _ _ => F2
      have e : rep x2 (Str.ofString ">") (Str.ofString "&gt;") = Txt.replace x2 (Str.ofString ">") (Str.ofString "&gt;") := by unfold rep; rw [if_pos c]
      exact ⟨rfl, _, _, _, _, rfl, fr_bd F2 _ (by rw [e]; exact ⟨rfl, trivial⟩)⟩
    · repeat' tb_rel
      rename Fr _ _ _ _ => F2
      have e : rep x2 (Str.ofString ">") (Str.ofString "&gt;") = x2 := by unfold rep; rw [if_neg (by simp [c])]
      exact ⟨rfl, _, _, _, _, rfl, fr_bd F2 _ (by rw [e]; exact ⟨rfl, trivial⟩)⟩
  rintro s' ⟨u, h', tk', t', rfl, F⟩ ht
  dsimp only at ht
  rw [e2] at F
  have b3 := ha.out 3 (by decide)
  have e3 : rep (esc (tab35.take 3) x) (Str.ofString "\"") (Str.ofString "&quot;") = (esc (tab35.take 4) x) := rfl
  generalize (esc (tab35.take 3) x) = x3 at *
  refine cutT_ (fun s' => ∃ (u : Str → Option Value) (h' : Heap) (tk' : Nat) (t' : Tok), s' = { s with heap := h', toks := tk' } ∧ Fr g L h' (bd u [((Str.ofString "text"), .str (rep x3 (Str.ofString "\"") (Str.ofString "&quot;")) t')])) (ht) ?_ ?_
  · refine wpAny_If ?_
    repeat' tb_rel
    refine ite_b (fun c => ?_) (fun c => ?_)
    · refine wpAny_execs_cons (wpAny_Assign_Name ?_)
      repeat' tb_rel
      (try dsimp only)
      refine SC.replaceW (by k_ne) (by k_ne) (by k_ne) (by decide) (by omega) (by decide) fun t9 k9 => ?_
      repeat' tb_rel
      rename Fr _ _ _ _ => F2
      have e : rep x3 (Str.ofString "\"") (Str.ofString "&quot;") = Txt.replace x3 (Str.ofString "\"") (Str.ofString "&quot;") := by unfold rep; rw [if_pos c]
      exact ⟨rfl, _, _, _, _, rfl, fr_bd F2 _ (by rw [e]; exact ⟨rfl, trivial⟩)⟩
    · repeat' tb_rel
      rename Fr _ _ _ _ => F2
      have e : rep x3 (Str.ofString "\"") (Str.ofString "&quot;") = x3 := by unfold rep; rw [if_neg (by simp [c])]
      exact ⟨rfl, _, _, _, _, rfl, fr_bd F2 _ (by rw [e]; exact ⟨rfl, trivial⟩)⟩
  rintro s' ⟨u, h', tk', t', rfl, F⟩ ht
  dsimp only at ht
  rw [e3] at F
  have b4 := ha.out 4 (by decide)
  have e4 : rep (esc (tab35.take 4) x) (Str.ofString "\r") (Str.ofString "&#13;") = (esc (tab35.take 5) x) := rfl
  generalize (esc (tab35.take 4) x) = x4 at *
  refine cutT_ (fun s' => ∃ (u : Str → Option Value) (h' : Heap) (tk' : Nat) (t' : Tok), s' = { s with heap := h', toks := tk' } ∧ Fr g L h' (bd u [((Str.ofString "text"), .str (rep x4 (Str.ofString "\r") (Str.ofString "&#13;")) t')])) (ht) ?_ ?_
  · refine wpAny_If ?_
    repeat' tb_rel
    refine ite_b (fun c => ?_) (fun c => ?_)
    · refine wpAny_execs_cons (wpAny_Assign_Name ?_)
      repeat' tb_rel
      (try dsimp only)
      refine SC.replaceW (by k_ne) (by k_ne) (by k_ne) (by decide) (by omega) (by decide) fun t9 k9 => ?_
      repeat' tb_rel
      rename Fr _ _ _ _ => F2
      have e : rep x4 (Str.ofString "\r") (Str.ofString "&#13;") = Txt.replace x4 (Str.ofString "\r") (Str.ofString "&#13;") := by unfold rep; rw [if_pos c]
      exact ⟨rfl, _, _, _, _, rfl, fr_bd F2 _ (by rw [e]; exact ⟨rfl, trivial⟩)⟩
    · repeat' tb_rel
      rename Fr _ _ _ _ => F2
      have e : rep x4 (Str.ofString "\r") (Str.ofString "&#13;") = x4 := by unfold rep; rw [if_neg (by simp [c])]
      exact ⟨rfl, _, _, _, _, rfl, fr_bd F2 _ (by rw [e]; exact ⟨rfl, trivial⟩)⟩
  rintro s' ⟨u, h', tk', t', rfl, F⟩ ht
  dsimp only at ht
  rw [e4] at F
  have b5 := ha.out 5 (by decide)
  have e5 : rep (esc (tab35.take 5) x) (Str.ofString "\n") (Str.ofString "&#10;") = (esc (tab35.take 6) x) := rfl
  generalize (esc (tab35.take 5) x) = x5 at *
  refine cutT_ (fun s' => ∃ (u : Str → Option Value) (h' : Heap) (tk' : Nat) (t' : Tok), s' = { s with heap := h', toks := tk' } ∧ Fr g L h' (bd u [((Str.ofString "text"), .str (rep x5 (Str.ofString "\n") (Str.ofString "&#10;")) t')])) (ht) ?_ ?_
  · refine wpAny_If ?_
    repeat' tb_rel
    refine ite_b (fun c => ?_) (fun c => ?_)
    · refine wpAny_execs_cons (wpAny_Assign_Name ?_)
      repeat' tb_rel
      (try dsimp only)
      refine SC.replaceW (by k_ne) (by k_ne) (by k_ne) (by decide) (by omega) (by decide) fun t9 k9 => ?_
      repeat' tb_rel
      rename Fr _ _ _ _ => F2
      have e : rep x5 (Str.ofString "\n") (Str.ofString "&#10;") = Txt.replace x5 (Str.ofString "\n") (Str.ofString "&#10;") := by unfold rep; rw [if_pos c]
      exact ⟨rfl, _, _, _, _, rfl, fr_bd F2 _ (by rw [e]; exact ⟨rfl, trivial⟩)⟩
    · repeat' tb_rel
      rename Fr _ _ _ _ => F2
      have e : rep x5 (Str.ofString "\n") (Str.ofString "&#10;") = x5 := by unfold rep; rw [if_neg (by simp [c])]
      exact ⟨rfl, _, _, _, _, rfl, fr_bd F2 _ (by rw [e]; exact ⟨rfl, trivial⟩)⟩
  rintro s' ⟨u, h', tk', t', rfl, F⟩ ht
  dsimp only at ht
  rw [e5] at F
  have b6 := ha.out 6 (by decide)
  have e6 : rep (esc (tab35.take 6) x) (Str.ofString "\t") (Str.ofString "&#09;") = (esc (tab35.take 7) x) := rfl
  generalize (esc (tab35.take 6) x) = x6 at *
  refine cutT_ (fun s' => ∃ (u : Str → Option Value) (h' : Heap) (tk' : Nat) (t' : Tok), s' = { s with heap := h', toks := tk' } ∧ Fr g L h' (bd u [((Str.ofString "text"), .str (rep x6 (Str.ofString "\t") (Str.ofString "&#09;")) t')])) (ht) ?_ ?_
  · refine wpAny_If ?_
    repeat' tb_rel
    refine ite_b (fun c => ?_) (fun c => ?_)
    · refine wpAny_execs_cons (wpAny_Assign_Name ?_)
      repeat' tb_rel
      (try dsimp only)
      refine SC.replaceW (by k_ne) (by k_ne) (by k_ne) (by decide) (by omega) (by decide) fun t9 k9 => ?_
      repeat' tb_rel
      rename Fr _ _ _ _ => F2
      have e : rep x6 (Str.ofString "\t") (Str.ofString "&#09;") = Txt.replace x6 (Str.ofString "\t") (Str.ofString "&#09;") := by unfold rep; rw [if_pos c]
      exact ⟨rfl, _, _, _, _, rfl, fr_bd F2 _ (by rw [e]; exact ⟨rfl, trivial⟩)⟩
    · repeat' tb_rel
      rename Fr _ _ _ _ => F2
      have e : rep x6 (Str.ofString "\t") (Str.ofString "&#09;") = x6 := by unfold rep; rw [if_neg (by simp [c])]
      exact ⟨rfl, _, _, _, _, rfl, fr_bd F2 _ (by rw [e]; exact ⟨rfl, trivial⟩)⟩
  rintro s' ⟨u, h', tk', t', rfl, F⟩ ht
  dsimp only at ht
  rw [e6] at F
  repeat' tb_rel
  rename Fr _ _ _ _ => F2
  (try dsimp only)
  exact ret _ _ _ (fun b x hx => F2.keep _ _ (hg1 b x hx (by simp)))
theorem esc42_c {w : World} {s : Shared} {h₀ : Heap} {mean : ExcName → Option Value} {mg mb : Str → Option Value} (X : (hd.heap_39 w.params).In h₀) (T : TT mean mg mb h₀) (st : h₀.StaysIn s.heap) {x : Str} {t : Tok} {R : Result → Shared → Prop} (ha : Hid (∀ k, k ≤ 3 → (esc (tab42.take k) x).length ≤ 1000))
  (ret : ∀ h' tk' t', Ext s.heap h' → R (.ok (.ret (.str (esc tab42 x) t'))) { s with heap := h', toks := tk' }) :
  codeAny (MM w) (A0 500) (.call (.ref 42) ⟨[.str x t], []⟩) R s := by
  refine' enter (binds := [((Str.ofString "text"), .str x t)]) [] X T st ?a1 ?a2 ?a3 ?a4 ?a5 ?a6 ?a7 ?a8 ?a9 ?a10 ?a11
  case a2 => k_is
  case a3 => k_is
  case a1 => intro q hq; cases hq
  case a4 => decide
  case a5 => exact BindsTo.of_eq rfl
  case a6 => exact locs rfl
  case a8 => exact rfl
  case a9 => exact rfl
  case a10 => exact rfl
  case a11 => decide
  intro g L h₁ Xg Tg hg1 hg2 hlt F N
  refine wpAny_execs_cons (try_ ?_)
  have F0' := fr_bd F [((Str.ofString "text"), .str x t)] ⟨rfl, trivial⟩
  clear F
  rename Fr _ _ _ _ => F
  have b0 := ha.out 0 (by decide)
  have e0 : rep x (Str.ofString "&") (Str.ofString "&amp;") = (esc (tab42.take 1) x) := rfl
  have b0' : x.length ≤ 1000 := b0
  refine cutT_ (fun s' => ∃ (u : Str → Option Value) (h' : Heap) (tk' : Nat) (t' : Tok), s' = { s with heap := h', toks := tk' } ∧ Fr g L h' (bd u [((Str.ofString "text"), .str (rep x (Str.ofString "&") (Str.ofString "&amp;")) t')])) (by simp) ?_ ?_
  · refine wpAny_If ?_
    repeat' tb_rel
    refine ite_b (fun c => ?_) (fun c => ?_)
    · refine wpAny_execs_cons (wpAny_Assign_Name ?_)
      repeat' tb_rel
      (try dsimp only)
      refine SC.replaceW (by k_ne) (by k_ne) (by k_ne) (by decide) (by omega) (by decide) fun t9 k9 => ?_
      repeat' tb_rel
      rename Fr _ _ _ _ => F2
      have e : rep x (Str.ofString "&") (Str.ofString "&amp;") = Txt.replace x (Str.ofString "&") (Str.ofString "&amp;") := by unfold rep; rw [if_pos c]
      exact ⟨rfl, _, _, _, _, rfl, fr_bd F2 _ (by rw [e]; exact ⟨rfl, trivial⟩)⟩
    · repeat' tb_rel
      rename Fr _ _ _ _ => F2
      have e : rep x (Str.ofString "&") (Str.ofString "&amp;") = x := by unfold rep; rw [if_neg (by simp [c])]
      exact ⟨rfl, _, _, _, _, rfl, fr_bd F2 _ (by rw [e]; exact ⟨rfl, trivial⟩)⟩
  rintro s' ⟨u, h', tk', t', rfl, F⟩ ht
  dsimp only at ht
  rw [e0] at F
  have b1 := ha.out 1 (by decide)
  have e1 : rep (esc (tab42.take 1) x) (Str.ofString ">") (Str.ofString "&gt;") = (esc (tab42.take 2) x) := rfl
  generalize (esc (tab42.take 1) x) = x1 at *
  refine cutT_ (fun s' => ∃ (u : Str → Option Value) (h' : Heap) (tk' : Nat) (t' : Tok), s' = { s with heap := h', toks := tk' } ∧ Fr g L h' (bd u [((Str.ofString "text"), .str (rep x1 (Str.ofString ">") (Str.ofString "&gt;")) t')])) (ht) ?_ ?_
  · refine wpAny_If ?_
    repeat' tb_rel
    refine ite_b (fun c => ?_) (fun c => ?_)
    · refine wpAny_execs_cons (wpAny_Assign_Name ?_)
      repeat' tb_rel
      (try dsimp only)
      refine SC.replaceW (by k_ne) (by k_ne) (by k_ne) (by decide) (by omega) (by decide) fun t9 k9 => ?_
      repeat' tb_rel
      rename Fr _ _ _ _ => F2
      have e : rep x1 (Str.ofString ">") (Str.ofString "&gt;") = Txt.replace x1 (Str.ofString ">") (Str.ofString "&gt;") := by unfold rep; rw [if_pos c]
      exact ⟨rfl, _, _, _, _, rfl, fr_bd F2 _ (by rw [e]; exact ⟨rfl, trivial⟩)⟩
    · repeat' tb_rel
      rename Fr _ _ _ _ => F2
      have e : rep x1 (Str.ofString ">") (Str.ofString "&gt;") = x1 := by unfold rep; rw [if_neg (by simp [c])]
      exact ⟨rfl, _, _, _, _, rfl, fr_bd F2 _ (by rw [e]; exact ⟨rfl, trivial⟩)⟩
  rintro s' ⟨u, h', tk', t', rfl, F⟩ ht
  dsimp only at ht
  rw [e1] at F
  have b2 := ha.out 2 (by decide)
  have e2 : rep (esc (tab42.take 2) x) (Str.ofString "\"") (Str.ofString "&quot;") = (esc (tab42.take 3) x) := rfl
  generalize (esc (tab42.take 2) x) = x2 at *
  refine cutT_ (fun s' => ∃ (u : Str → Option Value) (h' : Heap) (tk' : Nat) (t' : Tok), s' = { s with heap := h', toks := tk' } ∧ Fr g L h' (bd u [((Str.ofString "text"), .str (rep x2 (Str.ofString "\"") (Str.ofString "&quot;")) t')])) (ht) ?_ ?_
  · refine wpAny_If ?_
    repeat' tb_rel
    refine ite_b (fun c => ?_) (fun c => ?_)
    · refine wpAny_execs_cons (wpAny_Assign_Name ?_)
      repeat' tb_rel
      (try dsimp only)
      refine SC.replaceW (by k_ne) (by k_ne) (by k_ne) (by decide) (by omega) (by decide) fun t9 k9 => ?_
      repeat' tb_rel
      rename Fr _ _ _ _ => F2
      have e : rep x2 (Str.ofString "\"") (Str.ofString "&quot;") = Txt.replace x2 (Str.ofString "\"") (Str.ofString "&quot;") := by unfold rep; rw [if_pos c]
      exact ⟨rfl, _, _, _, _, rfl, fr_bd F2 _ (by rw [e]; exact ⟨rfl, trivial⟩)⟩
    · repeat' tb_rel
      rename Fr _ _ _ _ => F2
      have e : rep x2 (Str.ofString "\"") (Str.ofString "&quot;") = x2 := by unfold rep; rw [if_neg (by simp [c])]
      exact ⟨rfl, _, _, _, _, rfl, fr_bd F2 _ (by rw [e]; exact ⟨rfl, trivial⟩)⟩
  rintro s' ⟨u, h', tk', t', rfl, F⟩ ht
  dsimp only at ht
  rw [e2] at F
  repeat' tb_rel
  rename Fr _ _ _ _ => F2
  (try dsimp only)
  exact ret _ _ _ (fun b x hx => F2.keep _ _ (hg1 b x hx (by simp)))
theorem esc49_c {w : World} {s : Shared} {h₀ : Heap} {mean : ExcName → Option Value} {mg mb : Str → Option Value} (X : (hd.heap_39 w.params).In h₀) (T : TT mean mg mb h₀) (st : h₀.StaysIn s.heap) {x : Str} {t : Tok} {R : Result → Shared → Prop} (ha : Hid (∀ k, k ≤ 6 → (esc (tab49.take k) x).length ≤ 1000))
  (ret : ∀ h' tk' t', Ext s.heap h' → R (.ok (.ret (.str (esc tab49 x) t'))) { s with heap := h', toks := tk' }) :
  codeAny (MM w) (A0 500) (.call (.ref 49) ⟨[.str x t], []⟩) R s := by
  refine' enter (binds := [((Str.ofString "text"), .str x t)]) [] X T st ?a1 ?a2 ?a3 ?a4 ?a5 ?a6 ?a7 ?a8 ?a9 ?a10 ?a11
  case a2 => k_is
  case a3 => k_is
  case a1 => intro q hq; cases hq
  case a4 => decide
  case a5 => exact BindsTo.of_eq rfl
  case a6 => exact locs rfl
  case a8 => exact rfl
  case a9 => exact rfl
  case a10 => exact rfl
  case a11 => decide
  intro g L h₁ Xg Tg hg1 hg2 hlt F N
  refine wpAny_execs_cons (try_ ?_)
  have F0' := fr_bd F [((Str.ofString "text"), .str x t)] ⟨rfl, trivial⟩
  clear F
  rename Fr _ _ _ _ => F
  have b0 := ha.out 0 (by decide)
  have e0 : rep x (Str.ofString "&") (Str.ofString "&amp;") = (esc (tab49.take 1) x) := rfl
  have b0' : x.length ≤ 1000 := b0
  refine cutT_ (fun s' => ∃ (u : Str → Option Value) (h' : Heap) (tk' : Nat) (t' : Tok), s' = { s with heap := h', toks := tk' } ∧ Fr g L h' (bd u [((Str.ofString "text"), .str (rep x (Str.ofString "&") (Str.ofString "&amp;")) t')])) (by simp) ?_ ?_
  · refine wpAny_If ?_
    repeat' tb_rel
    refine ite_b (fun c => ?_) (fun c => ?_)
    · refine wpAny_execs_cons (wpAny_Assign_Name ?_)
      repeat' tb_rel
      (try dsimp only)
      refine SC.replaceW (by k_ne) (by k_ne) (by k_ne) (by decide) (by omega) (by decide) fun t9 k9 => ?_
      repeat' tb_rel
      rename Fr _ _ _ _ => F2
      have e : rep x (Str.ofString "&") (Str.ofString "&amp;") = Txt.replace x (Str.ofString "&") (Str.ofString "&amp;") := by unfold rep; rw [if_pos c]
      exact ⟨rfl, _, _, _, _, rfl, fr_bd F2 _ (by rw [e]; exact ⟨rfl, trivial⟩)⟩
    · repeat' tb_rel
      rename Fr _ _ _ _ => F2
      have e : rep x (Str.ofString "&") (Str.ofString "&amp;") = x := by unfold rep; rw [if_neg (by simp [c])]
      exact ⟨rfl, _, _, _, _, rfl, fr_bd F2 _ (by rw [e]; exact ⟨rfl, trivial⟩)⟩
  rintro s' ⟨u, h', tk', t', rfl, F⟩ ht
  dsimp only at ht
  rw [e0] at F
  have b1 := ha.out 1 (by decide)
  have e1 : rep (esc (tab49.take 1) x) (Str.ofString "<") (Str.ofString "&lt;") = (esc (tab49.take 2) x) := rfl
  generalize (esc (tab49.take 1) x) = x1 at *
  refine cutT_ (fun s' => ∃ (u : Str → Option Value) (h' : Heap) (tk' : Nat) (t' : Tok), s' = { s with heap := h', toks := tk' } ∧ Fr g L h' (bd u [((Str.ofString "text"), .str (rep x1 (Str.ofString "<") (Str.ofString "&lt;")) t')])) (ht) ?_ ?_
  · refine wpAny_If ?_
    repeat' tb_rel
    refine ite_b (fun c => ?_) (fun c => ?_)
    · refine wpAny_execs_cons (wpAny_Assign_Name ?_)
      repeat' tb_rel
      (try dsimp only)
      refine SC.replaceW (by k_ne) (by k_ne) (by k_ne) (by decide) (by omega) (by decide) fun t9 k9 => ?_
      repeat' tb_rel
      rename Fr _ _ _ _ => F2
      have e : rep x1 (Str.ofString "<") (Str.ofString "&lt;") = Txt.replace x1 (Str.ofString "<") (Str.ofString "&lt;") := by unfold rep; rw [if_pos c]
      exact ⟨rfl, _, _, _, _, rfl, fr_bd F2 _ (by rw [e]; exact ⟨rfl, trivial⟩)⟩
    · repeat' tb_rel
      rename Fr _ _ _ _ => F2
      have e : rep x1 (Str.ofString "<") (Str.ofString "&lt;") = x1 := by unfold rep; rw [if_neg (by simp [c])]
      exact ⟨rfl, _, _, _, _, rfl, fr_bd F2 _ (by rw [e]; exact ⟨rfl, trivial⟩)⟩
  rintro s' ⟨u, h', tk', t', rfl, F⟩ ht
  dsimp only at ht
  rw [e1] at F
  have b2 := ha.out 2 (by decide)
  have e2 : rep (esc (tab49.take 2) x) (Str.ofString "\"") (Str.ofString "&quot;") = (esc (tab49.take 3) x) := rfl
  generalize (esc (tab49.take 2) x) = x2 at *
  refine cutT_ (fun s' => ∃ (u : Str → Option Value) (h' : Heap) (tk' : Nat) (t' : Tok), s' = { s with heap := h', toks := tk' } ∧ Fr g L h' (bd u [((Str.ofString "text"), .str (rep x2 (Str.ofString "\"") (Str.ofString "&quot;")) t')])) (ht) ?_ ?_
  · refine wpAny_If ?_
    repeat' tb_rel
    refine ite_b (fun c => ?_) (fun c => ?_)
    · refine wpAny_execs_cons (wpAny_Assign_Name ?_)
      repeat' tb_rel
      (try dsimp only)
      refine SC.replaceW (by k_ne) (by k_ne) (by k_ne) (by decide) (by omega) (by decide) fun t9 k9 => ?_
      repeat' tb_rel
      rename Fr _ _ _ _ => F2
      have e : rep x2 (Str.ofString "\"") (Str.ofString "&quot;") = Txt.replace x2 (Str.ofString "\"") (Str.ofString "&quot;") := by unfold rep; rw [if_pos c]
      exact ⟨rfl, _, _, _, _, rfl, fr_bd F2 _ (by rw [e]; exact ⟨rfl, trivial⟩)⟩
    · repeat' tb_rel
      rename Fr _ _ _ _ => F2
      have e : rep x2 (Str.ofString "\"") (Str.ofString "&quot;") = x2 := by unfold rep; rw [if_neg (by simp [c])]
      exact ⟨rfl, _, _, _, _, rfl, fr_bd F2 _ (by rw [e]; exact ⟨rfl, trivial⟩)⟩
  rintro s' ⟨u, h', tk', t', rfl, F⟩ ht
  dsimp only at ht
  rw [e2] at F
  have b3 := ha.out 3 (by decide)
  have e3 : rep (esc (tab49.take 3) x) (Str.ofString "\t") (Str.ofString "&#x9;") = (esc (tab49.take 4) x) := rfl
  generalize (esc (tab49.take 3) x) = x3 at *
  refine cutT_ (fun s' => ∃ (u : Str → Option Value) (h' : Heap) (tk' : Nat) (t' : Tok), s' = { s with heap := h', toks := tk' } ∧ Fr g L h' (bd u [((Str.ofString "text"), .str (rep x3 (Str.ofString "\t") (Str.ofString "&#x9;")) t')])) (ht) ?_ ?_
  · refine wpAny_If ?_
    repeat' tb_rel
    refine ite_b (fun c => ?_) (fun c => ?_)
    · refine wpAny_execs_cons (wpAny_Assign_Name ?_)
      repeat' tb_rel
      (try dsimp only)
      refine SC.replaceW (by k_ne) (by k_ne) (by k_ne) (by decide) (by omega) (by decide) fun t9 k9 => ?_
      repeat' tb_rel
      rename Fr _ _ _ _ => F2
      have e : rep x3 (Str.ofString "\t") (Str.ofString "&#x9;") = Txt.replace x3 (Str.ofString "\t") (Str.ofString "&#x9;") := by unfold rep; rw [if_pos c]
      exact ⟨rfl, _, _, _, _, rfl, fr_bd F2 _ (by rw [e]; exact ⟨rfl, trivial⟩)⟩
    · repeat' tb_rel
      rename Fr _ _ _ _ => F2
      have e : rep x3 (Str.ofString "\t") (Str.ofString "&#x9;") = x3 := by unfold rep; rw [if_neg (by simp [c])]
      exact ⟨rfl, _, _, _, _, rfl, fr_bd F2 _ (by rw [e]; exact ⟨rfl, trivial⟩)⟩
  rintro s' ⟨u, h', tk', t', rfl, F⟩ ht
  dsimp only at ht
  rw [e3] at F
  have b4 := ha.out 4 (by decide)
  have e4 : rep (esc (tab49.take 4) x) (Str.ofString "\n") (Str.ofString "&#xA;") = (esc (tab49.take 5) x) := rfl
  generalize (esc (tab49.take 4) x) = x4 at *
  refine cutT_ (fun s' => ∃ (u : Str → Option Value) (h' : Heap) (tk' : Nat) (t' : Tok), s' = { s with heap := h', toks := tk' } ∧ Fr g L h' (bd u [((Str.ofString "text"), .str (rep x4 (Str.ofString "\n") (Str.ofString "&#xA;")) t')])) (ht) ?_ ?_
  · refine wpAny_If ?_
    repeat' tb_rel
    refine ite_b (fun c => ?_) (fun c => ?_)
    · refine wpAny_execs_cons (wpAny_Assign_Name ?_)
      repeat' tb_rel
      (try dsimp only)
      refine SC.replaceW (by k_ne) (by k_ne) (by k_ne) (by decide) (by omega) (by decide) fun t9 k9 => ?_
      repeat' tb_rel
      rename Fr _ _ _ _ => F2
      have e : rep x4 (Str.ofString "\n") (Str.ofString "&#xA;") = Txt.replace x4 (Str.ofString "\n") (Str.ofString "&#xA;") := by unfold rep; rw [if_pos c]
      exact ⟨rfl, _, _, _, _, rfl, fr_bd F2 _ (by rw [e]; exact ⟨rfl, trivial⟩)⟩
    · repeat' tb_rel
      rename Fr _ _ _ _ => F2
      have e : rep x4 (Str.ofString "\n") (Str.ofString "&#xA;") = x4 := by unfold rep; rw [if_neg (by simp [c])]
      exact ⟨rfl, _, _, _, _, rfl, fr_bd F2 _ (by rw [e]; exact ⟨rfl, trivial⟩)⟩
  rintro s' ⟨u, h', tk', t', rfl, F⟩ ht
  dsimp only at ht
  rw [e4] at F
  have b5 := ha.out 5 (by decide)
  have e5 : rep (esc (tab49.take 5) x) (Str.ofString "\r") (Str.ofString "&#xD;") = (esc (tab49.take 6) x) := rfl
  generalize (esc (tab49.take 5) x) = x5 at *
  refine cutT_ (fun s' => ∃ (u : Str → Option Value) (h' : Heap) (tk' : Nat) (t' : Tok), s' = { s with heap := h', toks := tk' } ∧ Fr g L h' (bd u [((Str.ofString "text"), .str (rep x5 (Str.ofString "\r") (Str.ofString "&#xD;")) t')])) (ht) ?_ ?_
  · refine wpAny_If ?_
    repeat' tb_rel
    refine ite_b (fun c => ?_) (fun c => ?_)
    · refine wpAny_execs_cons (wpAny_Assign_Name ?_)
      repeat' tb_rel
      (try dsimp only)
      refine SC.replaceW (by k_ne) (by k_ne) (by k_ne) (by decide) (by omega) (by decide) fun t9 k9 => ?_
      repeat' tb_rel
      rename Fr _ _ _ _ => F2
      have e : rep x5 (Str.ofString "\r") (Str.ofString "&#xD;") = Txt.replace x5 (Str.ofString "\r") (Str.ofString "&#xD;") := by unfold rep; rw [if_pos c]
      exact ⟨rfl, _, _, _, _, rfl, fr_bd F2 _ (by rw [e]; exact ⟨rfl, trivial⟩)⟩
    · repeat' tb_rel
      rename Fr _ _ _ _ => F2
      have e : rep x5 (Str.ofString "\r") (Str.ofString "&#xD;") = x5 := by unfold rep; rw [if_neg (by simp [c])]
      exact ⟨rfl, _, _, _, _, rfl, fr_bd F2 _ (by rw [e]; exact ⟨rfl, trivial⟩)⟩
  rintro s' ⟨u, h', tk', t', rfl, F⟩ ht
  dsimp only at ht
  rw [e5] at F
  repeat' tb_rel
  rename Fr _ _ _ _ => F2
  (try dsimp only)
  exact ret _ _ _ (fun b x hx => F2.keep _ _ (hg1 b x hx (by simp)))
end Mine
end

section
open PySem PySem.W PyProof.Rows PySem.Calls
set_option maxRecDepth 100000
set_option maxHeartbeats 1000000
namespace Mine
def All2 {α β : Type} (P : α → β → Prop) : List α → List β → Prop
  | [], [] => True
  | x :: xs, y :: ys => P x y ∧ All2 P xs ys
  | _, _ => False
/-- new objects that a call left -/
def Adds (h h' : Heap) (ts : List (Addr × Obj)) : Prop := ∀ p ∈ ts, h'.get? p.1 = some p.2 ∧ h.get? p.1 = none
def Tups (ts : List (Addr × Obj)) : Prop := ∀ p ∈ ts, p.2.cls = .type "tuple"
theorem behindL {g h h' : Heap} {L : Addr} {m : Str → Option Value} {news ts : List (Addr × Obj)} (F : Fr g L h m) (N : News g L h news) (ext : Ext h h') (ad : Adds h h' ts) :
    Fr g L h' m ∧ News g L h' (ts ++ news) := by
  have z := behind0 F N ext
  refine ⟨z.1, fun p hp => ?_⟩
  rcases List.mem_append.mp hp with hp | hp
  · refine ⟨(ad p hp).1, ?_, ?_⟩
    · rintro hL
      obtain ⟨oL, _, _, hoL, _⟩ := F.ns
      have := (ad p hp).2
      rw [hL, hoL] at this; cases this
    · cases q : g.get? p.1 with
      | none => rfl
      | some x => have := F.keep _ _ q; rw [(ad p hp).2] at this; cases this
  · exact z.2 p hp
theorem adds_of {s g h' : Heap} {L : Addr} {news ts : List (Addr × Obj)} (N : News g L h' news) (hs : ∀ p ∈ ts, p ∈ news) (k : ∀ b o, s.get? b = some o → ¬ b ∈ List.map (fun (x : Addr × Obj) => x.1) [] → g.get? b = some o) : Adds s h' ts :=
  fun p hp => ⟨(N p (hs p hp)).1, none_of k (N p (hs p hp)).2.2⟩
theorem tup_ne {g h : Heap} {L D : Addr} {news : List (Addr × Obj)} {its : Array Value} {n : Nat} {p : Addr × Obj} (N : News g L h news) (hp : p ∈ news) (hD : (D, listOf its n) ∈ news) (hc : p.2.cls = .type "tuple") : p.1 ≠ D := by
  intro e
  have h1 := (N p hp).1
  have h2 := (N _ hD).1
  rw [e] at h1
  dsimp only at h2
  rw [h1] at h2
  have e2 := congrArg Obj.cls (Option.some.inj h2)
  rw [hc] at e2
  exact absurd (show Value.type "tuple" = Value.type "list" from e2) (by decide)
abbrev Tie := Nat × Nat × Nat
def TieIn (ts : List (Addr × Obj)) (v : Value) (x : Tie) : Prop := ∃ a t u y, v = .ref a ∧ (a, ({ cls := .type "tuple", data := .seq #[.int x.1 t, .int x.2.1 u, .int x.2.2 y] } : Obj)) ∈ ts
def TieAt (h : Heap) (v : Value) (x : Tie) : Prop := ∃ a t u y, v = .ref a ∧ h.get? a = some { cls := .type "tuple", data := .seq #[.int x.1 t, .int x.2.1 u, .int x.2.2 y] }
theorem TieIn.at {ts : List (Addr × Obj)} {h : Heap} {v : Value} {x : Tie} (p : TieIn ts v x) (k : ∀ p ∈ ts, h.get? p.1 = some p.2) : TieAt h v x :=
  let ⟨a, t, u, y, e, q⟩ := p; ⟨a, t, u, y, e, k _ q⟩
theorem TieAt.keeps {h h' : Heap} {v : Value} {x : Tie} (p : TieAt h v x) (k : ∀ b o, h.get? b = some o → h'.get? b = some o) : TieAt h' v x :=
  let ⟨a, t, u, y, e, q⟩ := p; ⟨a, t, u, y, e, k _ _ q⟩
theorem TieIn.mono {ts ts' : List (Addr × Obj)} {v : Value} {x : Tie} (p : TieIn ts v x) (k : ∀ p ∈ ts, p ∈ ts') : TieIn ts' v x :=
  let ⟨a, t, u, y, e, q⟩ := p; ⟨a, t, u, y, e, k _ q⟩
theorem All2.imp {α β : Type} {P Q : α → β → Prop} (h : ∀ a b, P a b → Q a b) : ∀ {xs : List α} {ys : List β}, All2 P xs ys → All2 Q xs ys
  | [], [], _ => trivial
  | _ :: _, _ :: _, p => ⟨h _ _ p.1, p.2.imp h⟩
  | [], _ :: _, p => p.elim
  | _ :: _, [], p => p.elim
theorem All2.append {α β : Type} {P : α → β → Prop} : ∀ {xs : List α} {ys : List β} {xs' : List α} {ys' : List β}, All2 P xs ys → All2 P xs' ys' → All2 P (xs ++ xs') (ys ++ ys')
  | [], [], _, _, _, q => q
  | _ :: _, _ :: _, _, _, p, q => ⟨p.1, p.2.append q⟩
  | [], _ :: _, _, _, p, _ => p.elim
  | _ :: _, [], _, _, p, _ => p.elim
theorem All2.length {α β : Type} {P : α → β → Prop} : ∀ {xs : List α} {ys : List β}, All2 P xs ys → xs.length = ys.length
  | [], [], _ => rfl
  | _ :: _, _ :: _, p => congrArg (· + 1) p.2.length
  | [], _ :: _, p => p.elim
  | _ :: _, [], p => p.elim
theorem All2.get {α β : Type} {P : α → β → Prop} : ∀ {xs : List α} {ys : List β} {i : Nat} {x : α}, All2 P xs ys → xs[i]? = some x → ∃ y, ys[i]? = some y ∧ P x y
  | _ :: _, y :: _, 0, _, p, e => ⟨y, rfl, by cases e; exact p.1⟩
  | _ :: _, _ :: _, i + 1, _, p, e => p.2.get (i := i) e
  | [], [], _, _, _, e => by simp at e
  | [], _ :: _, _, _, p, _ => p.elim
  | _ :: _, [], _, _, p, _ => p.elim
theorem fdiv_nat (d k : Nat) : ((d : Int)).fdiv (k : Int) = ((d / k : Nat) : Int) := by
  rw [Int.fdiv_eq_ediv_of_nonneg _ (by omega)]; omega
theorem fmod_nat (d k : Nat) : ((d : Int)).fmod (k : Int) = ((d % k : Nat) : Int) := by
  rw [Int.fmod_eq_emod_of_nonneg _ (by omega)]; omega
theorem news_sub {g h : Heap} {L : Addr} {a b : List (Addr × Obj)} (N : News g L h a) (k : ∀ p ∈ b, p ∈ a) : News g L h b := fun p hp => N p (k p hp)
theorem news_bca {g h : Heap} {L : Addr} {a b c : Addr × Obj} {r : List (Addr × Obj)} (N : News g L h (a :: b :: c :: r)) : News g L h (b :: c :: a :: r) := news_sub N fun p hp => (List.perm_middle (l₁ := [b, c]) (a := a) (l₂ := r)).subset hp
local macro_rules | `(tactic| tb_rel) => `(tactic| first | (goal_has PySem.W.Frag.In; (fail_if_success (with_reducible show wpAny _ _ (call (Value.ref _) _ _) _ _ _)); walk1) | (goal_lacks PySem.W.Frag.In; (with_reducible show wpAny _ _ _ _ _ _); (fail_if_success (with_reducible show wpAny _ _ (execs (PySem.Stmt.While _ _ _ _ :: _) _) _ _ _)); (fail_if_success (with_reducible show wpAny _ _ (execs (PySem.Stmt.For _ _ _ _ _ :: _) _) _ _ _)); (fail_if_success (with_reducible show wpAny _ _ (call (Value.ref _) _ _) _ _ _)); (fail_if_success (with_reducible show wpAny _ _ (pyIter _) _ _ _)); (fail_if_success (with_reducible show wpAny _ _ (call (Value.builtin "str.split") _ _) _ _ _)); (fail_if_success (with_reducible show wpAny _ _ (call (Value.ref _) _ _) _ _ _)); (fail_if_success (with_reducible show wpAny _ _ (exec (PySem.Stmt.Try _ _ _ _ _) _) _ _ _)); (fail_if_success (with_reducible show wpAny _ _ (call (Value.builtin "str.join") _ _) _ _ _)); first | walk1 | (dsimp only; walk1)) | ((fail_if_success (with_reducible show wpAny _ _ _ _ _ _)); (with_reducible refine Mine.ite_t (by with_reducible first | rfl | exact True.intro) ?_)) | ((fail_if_success (with_reducible show wpAny _ _ _ _ _ _)); (with_reducible refine Mine.ite_f (by decide) ?_)) | fail "no step")
local macro_rules | `(tactic| tb_start) => `(tactic| first | (goal_has PySem.W.Frag.In; (fail_if_success (with_reducible show wpAny _ _ (call (Value.ref _) _ _) _ _ _)); walk1) | (goal_lacks PySem.W.Frag.In; (with_reducible show wpAny _ _ _ _ _ _); (fail_if_success (with_reducible show wpAny _ _ (execs (PySem.Stmt.While _ _ _ _ :: _) _) _ _ _)); (fail_if_success (with_reducible show wpAny _ _ (execs (PySem.Stmt.For _ _ _ _ _ :: _) _) _ _ _)); (fail_if_success (with_reducible show wpAny _ _ (execs (PySem.Stmt.If _ _ _ _ :: _) _) _ _ _)); (fail_if_success (with_reducible show wpAny _ _ (call (Value.ref _) _ _) _ _ _)); (fail_if_success (with_reducible show wpAny _ _ (pyIter _) _ _ _)); (fail_if_success (with_reducible show wpAny _ _ (call (Value.builtin "str.split") _ _) _ _ _)); (fail_if_success (with_reducible show wpAny _ _ (call (Value.ref _) _ _) _ _ _)); (fail_if_success (with_reducible show wpAny _ _ (exec (PySem.Stmt.Try _ _ _ _ _) _) _ _ _)); (fail_if_success (with_reducible show wpAny _ _ (call (Value.builtin "str.join") _ _) _ _ _)); first | walk1 | (dsimp only; walk1)) | ((fail_if_success (with_reducible show wpAny _ _ _ _ _ _)); (with_reducible refine Mine.ite_t (by with_reducible first | rfl | exact True.intro) ?_)) | ((fail_if_success (with_reducible show wpAny _ _ _ _ _ _)); (with_reducible refine Mine.ite_f (by decide) ?_)) | fail "no step")
def tabK (kind : Nat) : List (Str × Str) := if kind = 0 then tab35 else if kind = 1 then tab42 else tab49
def wr (kind : Nat) (x : Str) : Str := esc (tabK kind) x
def WrOk (kind : Nat) (x : Str) : Prop := ∀ k, k ≤ (tabK kind).length → (esc ((tabK kind).take k) x).length ≤ 1000
theorem written_c {w : World} {s : Shared} {h₀ : Heap} {mean : ExcName → Option Value} {mg mb : Str → Option Value} (X : (hd.heap_39 w.params).In h₀) (T : TT mean mg mb h₀) (st : h₀.StaysIn s.heap) {kind : Nat} {x : Str} {tk t : Tok} {R : Result → Shared → Prop} (hk : kind < 3) (ha : Hid (WrOk kind x))
  (ret : ∀ h' tk' t', Ext s.heap h' → R (.ok (.ret (.str (wr kind x) t'))) { s with heap := h', toks := tk' }) :
  codeAny (MM w) (A0 480) (.call (.ref 199) ⟨[.int kind tk, .str x t], []⟩) R s := by
  refine' enter (binds := [((Str.ofString "kind"), .int kind tk), ((Str.ofString "text"), .str x t)]) [] X T st ?a1 ?a2 ?a3 ?a4 ?a5 ?a6 ?a7 ?a8 ?a9 ?a10 ?a11
  case a2 => k_is
  case a3 => k_is
  case a1 => intro q hq; cases hq
  case a4 => decide
  case a5 => exact BindsTo.of_eq rfl
  case a6 => exact locs rfl
  case a8 => exact rfl
  case a9 => exact rfl
  case a10 => exact rfl
  case a11 => decide
  intro g L h₁ Xg Tg hg1 hg2 hlt F N
  repeat' tb_rel
  rename Fr _ _ _ _ => F1
  rename News _ _ _ _ => N1
  refine ite_b (fun c1 => ?_) (fun c1 => ?_)
  · have hk0 : kind = 0 := by simpa using c1
    subst hk0
    repeat' tb_rel
    rename Fr _ _ _ _ => F2
    rename News _ _ _ _ => N2
    refine call_up (n := 500) rfl (Nat.le_of_ble_eq_true rfl) (Nat.le_of_ble_eq_true rfl) ?_
    refine esc35_c Xg Tg (by exact F2.keep) ⟨ha.out⟩ fun h3 tk3 t3 e3 => ?_
    obtain ⟨F3, N3⟩ := behind0 F2 N2 e3
    dsimp only [RV]
    repeat' tb_rel
    rename Fr _ _ _ _ => F4
    (try dsimp only)
    exact ret _ _ _ (fun b x hx => F4.keep _ _ (hg1 b x hx (by simp)))
  · have hk0 : ¬ kind = 0 := by simpa using c1
    repeat' tb_rel
    refine ite_b (fun c2 => ?_) (fun c2 => ?_)
    · have hk1 : kind = 1 := by have := eq_of_beq c2; omega
      subst hk1
      repeat' tb_rel
      rename Fr _ _ _ _ => F2
      rename News _ _ _ _ => N2
      refine call_up (n := 500) rfl (Nat.le_of_ble_eq_true rfl) (Nat.le_of_ble_eq_true rfl) ?_
      refine esc42_c Xg Tg (by exact F2.keep) ⟨ha.out⟩ fun h3 tk3 t3 e3 => ?_
      obtain ⟨F3, N3⟩ := behind0 F2 N2 e3
      dsimp only [RV]
      repeat' tb_rel
      rename Fr _ _ _ _ => F4
      (try dsimp only)
      exact ret _ _ _ (fun b x hx => F4.keep _ _ (hg1 b x hx (by simp)))
    · have hk1 : ¬ kind = 1 := by intro h; subst h; simp at c2
      have e0 : tabK kind = tab49 := by unfold tabK; rw [if_neg hk0, if_neg hk1]
      repeat' tb_rel
      rename Fr _ _ _ _ => F2
      rename News _ _ _ _ => N2
      refine call_up (n := 500) rfl (Nat.le_of_ble_eq_true rfl) (Nat.le_of_ble_eq_true rfl) ?_
      refine esc49_c Xg Tg (by exact F2.keep) ⟨(by have h := ha.out; unfold WrOk at h; rw [e0] at h; exact h)⟩ fun h3 tk3 t3 e3 => ?_
      obtain ⟨F3, N3⟩ := behind0 F2 N2 e3
      dsimp only [RV]
      repeat' tb_rel
      rename Fr _ _ _ _ => F4
      (try dsimp only)
      have e : esc tab49 x = wr kind x := by unfold wr; rw [e0]
      rw [e]
      exact ret _ _ _ (fun b x hx => F4.keep _ _ (hg1 b x hx (by simp)))

def places : List (List Str) := [[(Str.ofString "i")], [(Str.ofString "a&"), (Str.ofString "i")], [(Str.ofString "a&"), (Str.ofString "<")], [(Str.ofString "a&"), (Str.ofString "\""), (Str.ofString ">\t")], [(Str.ofString "i<"), (Str.ofString "\"i")]]
/-- a tuple of texts lies at v -/
def StrTup (h : Heap) (v : Value) (xs : List Str) : Prop := ∃ a vs, v = .ref a ∧ h.get? a = some { cls := .type "tuple", data := .seq (List.toArray vs) } ∧ StrsAre vs xs
theorem StrTup.keeps {h h' : Heap} {v : Value} {xs : List Str} (p : StrTup h v xs) (k : ∀ b o, h.get? b = some o → h'.get? b = some o) : StrTup h' v xs :=
  let ⟨a, vs, e, q, r⟩ := p; ⟨a, vs, e, k _ _ q, r⟩
def StrTupIn (ts : List (Addr × Obj)) (v : Value) (xs : List Str) : Prop := ∃ a vs, v = .ref a ∧ (a, ({ cls := .type "tuple", data := .seq (List.toArray vs) } : Obj)) ∈ ts ∧ StrsAre vs xs
theorem StrTupIn.at {ts : List (Addr × Obj)} {h : Heap} {v : Value} {xs : List Str} (p : StrTupIn ts v xs) (k : ∀ p ∈ ts, h.get? p.1 = some p.2) : StrTup h v xs :=
  let ⟨a, vs, e, q, r⟩ := p; ⟨a, vs, e, k _ q, r⟩
theorem places_c {w : World} {s : Shared} {h₀ : Heap} {mean : ExcName → Option Value} {mg mb : Str → Option Value} (X : (hd.heap_39 w.params).In h₀) (T : TT mean mg mb h₀) (st : h₀.StaysIn s.heap) {R : Result → Shared → Prop}
  (ret : ∀ h' tk' D vs ts, Ext s.heap h' → Adds s.heap h' ((D, listOf (List.toArray vs) 0) :: ts) → Tups ts → All2 (StrTupIn ts) vs places → R (.ok (.ret (.ref D))) { s with heap := h', toks := tk' }) :
  codeAny (MM w) (A0 480) (.call (.ref 213) ⟨[], []⟩) R s := by
  refine' enter (binds := []) [] X T st ?a1 ?a2 ?a3 ?a4 ?a5 ?a6 ?a7 ?a8 ?a9 ?a10 ?a11
  case a2 => k_is
  case a3 => k_is
  case a1 => intro q hq; cases hq
  case a4 => decide
  case a5 => exact BindsTo.of_eq rfl
  case a6 => exact locs rfl
  case a8 => exact rfl
  case a9 => exact rfl
  case a10 => exact rfl
  case a11 => decide
  intro g L h₁ Xg Tg hg1 hg2 hlt F N
  repeat' tb_rel
  rename Fr _ _ _ _ => F1
  rename News _ _ _ _ => N1
  (try dsimp only)
  refine ret _ _ _ _ _ (fun b x hx => F1.keep _ _ (hg1 b x hx (by simp))) (adds_of N1 (fun p hp => hp) hg1) ?_ ?_
  · intro p hp
    simp only [List.mem_cons, List.not_mem_nil, or_false] at hp
    rcases hp with rfl | rfl | rfl | rfl | rfl <;> rfl
  · exact ⟨⟨_, _, rfl, .tail _ (.tail _ (.tail _ (.tail _ (.head _)))), .cons _ _ (.nil)⟩, ⟨_, _, rfl, .tail _ (.tail _ (.tail _ (.head _))), .cons _ _ (.cons _ _ (.nil))⟩, ⟨_, _, rfl, .tail _ (.tail _ (.head _)), .cons _ _ (.cons _ _ (.nil))⟩, ⟨_, _, rfl, .tail _ (.head _), .cons _ _ (.cons _ _ (.cons _ _ (.nil)))⟩, ⟨_, _, rfl, .head _, .cons _ _ (.cons _ _ (.nil))⟩, trivial⟩
end Mine
end

section
open PySem PySem.W PyProof.Rows PySem.Calls
set_option maxRecDepth 100000
set_option maxHeartbeats 1000000
namespace Mine
local macro_rules | `(tactic| tb_rel) => `(tactic| first | (goal_has PySem.W.Frag.In; (fail_if_success (with_reducible show wpAny _ _ (call (Value.ref _) _ _) _ _ _)); walk1) | (goal_lacks PySem.W.Frag.In; (with_reducible show wpAny _ _ _ _ _ _); (fail_if_success (with_reducible show wpAny _ _ (execs (PySem.Stmt.While _ _ _ _ :: _) _) _ _ _)); (fail_if_success (with_reducible show wpAny _ _ (execs (PySem.Stmt.For _ _ _ _ _ :: _) _) _ _ _)); (fail_if_success (with_reducible show wpAny _ _ (call (Value.ref _) _ _) _ _ _)); (fail_if_success (with_reducible show wpAny _ _ (pyIter _) _ _ _)); (fail_if_success (with_reducible show wpAny _ _ (call (Value.builtin "str.split") _ _) _ _ _)); (fail_if_success (with_reducible show wpAny _ _ (call (Value.ref _) _ _) _ _ _)); (fail_if_success (with_reducible show wpAny _ _ (exec (PySem.Stmt.Try _ _ _ _ _) _) _ _ _)); (fail_if_success (with_reducible show wpAny _ _ (call (Value.builtin "str.join") _ _) _ _ _)); (fail_if_success (with_reducible show wpAny _ _ (call (Value.builtin "len") _ _) _ _ _)); (fail_if_success (with_reducible show wpAny _ _ (binaryOp Operator.Mult _ _) _ _ _)); first | walk1 | (dsimp only; walk1)) | ((fail_if_success (with_reducible show wpAny _ _ _ _ _ _)); (with_reducible refine Mine.ite_t (by with_reducible first | rfl | exact True.intro) ?_)) | ((fail_if_success (with_reducible show wpAny _ _ _ _ _ _)); (with_reducible refine Mine.ite_f (by decide) ?_)) | fail "no step")
local macro_rules | `(tactic| tb_start) => `(tactic| first | (goal_has PySem.W.Frag.In; (fail_if_success (with_reducible show wpAny _ _ (call (Value.ref _) _ _) _ _ _)); walk1) | (goal_lacks PySem.W.Frag.In; (with_reducible show wpAny _ _ _ _ _ _); (fail_if_success (with_reducible show wpAny _ _ (execs (PySem.Stmt.While _ _ _ _ :: _) _) _ _ _)); (fail_if_success (with_reducible show wpAny _ _ (execs (PySem.Stmt.For _ _ _ _ _ :: _) _) _ _ _)); (fail_if_success (with_reducible show wpAny _ _ (execs (PySem.Stmt.If _ _ _ _ :: _) _) _ _ _)); (fail_if_success (with_reducible show wpAny _ _ (call (Value.ref _) _ _) _ _ _)); (fail_if_success (with_reducible show wpAny _ _ (pyIter _) _ _ _)); (fail_if_success (with_reducible show wpAny _ _ (call (Value.builtin "str.split") _ _) _ _ _)); (fail_if_success (with_reducible show wpAny _ _ (call (Value.ref _) _ _) _ _ _)); (fail_if_success (with_reducible show wpAny _ _ (exec (PySem.Stmt.Try _ _ _ _ _) _) _ _ _)); (fail_if_success (with_reducible show wpAny _ _ (call (Value.builtin "str.join") _ _) _ _ _)); (fail_if_success (with_reducible show wpAny _ _ (call (Value.builtin "len") _ _) _ _ _)); (fail_if_success (with_reducible show wpAny _ _ (binaryOp Operator.Mult _ _) _ _ _)); first | walk1 | (dsimp only; walk1)) | ((fail_if_success (with_reducible show wpAny _ _ _ _ _ _)); (with_reducible refine Mine.ite_t (by with_reducible first | rfl | exact True.intro) ?_)) | ((fail_if_success (with_reducible show wpAny _ _ _ _ _ _)); (with_reducible refine Mine.ite_f (by decide) ?_)) | fail "no step")
def linkS (bl : Nat) (goal : List Str) (way : Nat) : Str :=
  if way = 0 then (Str.ofString "/") ++ Txt.join (Str.ofString "/") goal
  else if way = 1 then Txt.mul (Str.ofString "../") ((bl : Int) - 1) ++ Txt.join (Str.ofString "/") goal
  else ((Str.ofString "./<&/../") ++ Txt.mul (Str.ofString "../") (bl : Int)) ++ Txt.join (Str.ofString "/") goal
theorem mul_ok : ∀ n : Nat, n ≤ 5 → MulOk (Str.ofString "../") (n : Int) ∧ MulOk (Str.ofString "../") ((n : Int) - 1) ∧ (Txt.mul (Str.ofString "../") (n : Int)).length ≤ 20 ∧ (Txt.mul (Str.ofString "../") ((n : Int) - 1)).length ≤ 20
  | 0, _ | 1, _ | 2, _ | 3, _ | 4, _ | 5, _ => by unfold MulOk; decide +kernel
  | n + 6, h => by omega
theorem link_c {w : World} {s : Shared} {h₀ : Heap} {mean : ExcName → Option Value} {mg mb : Str → Option Value} (X : (hd.heap_39 w.params).In h₀) (T : TT mean mg mb h₀) (st : h₀.StaysIn s.heap) {vb vg : Value} {bs gs : List Str} {way : Nat} {tw : Tok} {R : Result → Shared → Prop} (hb : StrTup s.heap vb bs) (hg : StrTup s.heap vg gs) (hw : way < 3) (hbl : bs.length ≤ 5) (hgl : gs.length ≤ 5)
  (hgs : Hid ((gs.map (·.length)).sum ≤ 100 ∧ (Txt.join (Str.ofString "/") gs).length ≤ 200))
  (ret : ∀ h' tk' t', Ext s.heap h' → R (.ok (.ret (.str (linkS bs.length gs way) t'))) { s with heap := h', toks := tk' }) :
  codeAny (MM w) (A0 480) (.call (.ref 220) ⟨[vb, vg, .int way tw], []⟩) R s := by
  obtain ⟨ab, vsb, rfl, sb1, sb2⟩ := hb
  obtain ⟨ag, vsg, rfl, sg1, sg2⟩ := hg
  have lb := sb2.length
  refine' enter (binds := [((Str.ofString "begin"), .ref ab), ((Str.ofString "goal"), .ref ag), ((Str.ofString "way"), .int way tw)]) [] X T st ?a1 ?a2 ?a3 ?a4 ?a5 ?a6 ?a7 ?a8 ?a9 ?a10 ?a11
  case a2 => k_is
  case a3 => k_is
  case a1 => intro q hq; cases hq
  case a4 => decide
  case a5 => exact BindsTo.of_eq rfl
  case a6 => exact locs rfl
  case a8 => exact rfl
  case a9 => exact rfl
  case a10 => exact rfl
  case a11 => decide
  intro g L h₁ Xg Tg hg1 hg2 hlt F N
  have gb := hg1 _ _ sb1 (by simp)
  have gg := hg1 _ _ sg1 (by simp)
  repeat' tb_rel
  rename Fr _ _ _ _ => F1
  rename News _ _ _ _ => N1
  refine ite_b (fun c1 => ?_) (fun c1 => ?_)
  · have hk0 : way = 0 := by simpa using c1
    repeat' tb_rel
    rename Fr _ _ _ _ => F2
    rename News _ _ _ _ => N2
    refine join_tuple (ys := gs) (by exact ⟨_, F2.keep _ _ gg, rfl, _, rfl⟩) (by simpa using sg2) (by have h1 := hgs.out.1; have h2 : (Str.length (Str.ofString "/")) = 1 := (by decide); rw [h2]; omega) fun t9 k9 => ?_
    have hj := hgs.out.2
    repeat' tb_rel
    rename Fr _ _ _ _ => F3
    rename News _ _ _ _ => N3
    (try dsimp only)
    have e : linkS bs.length gs way = (Str.ofString "/") ++ Txt.join (Str.ofString "/") gs := by unfold linkS; rw [if_pos hk0]
    rw [← e]
    exact ret _ _ _ (fun b x hx => F3.keep _ _ (hg1 b x hx (by simp)))
  · have hk0 : ¬ way = 0 := by simpa using c1
    repeat' tb_rel
    refine ite_b (fun c2 => ?_) (fun c2 => ?_)
    · have hk1 : way = 1 := by have := eq_of_beq c2; omega
      repeat' tb_rel
      rename Fr _ _ _ _ => F2
      rename News _ _ _ _ => N2
      refine len_tuple (items := vsb.toArray) (by exact ⟨_, F2.keep _ _ gb, rfl, _, rfl⟩) (by simp; omega) ?_
      rw [show vsb.toArray.size = bs.length from lb]
      have m0 := mul_ok bs.length hbl
      have m1 : Hid (MulOk (Str.ofString "../") ((bs.length : Int) - 1)) := ⟨m0.2.1⟩
      have m2 := m0.2.2.2
      clear m0
      repeat' tb_rel
      rename Fr _ _ _ _ => F3
      rename News _ _ _ _ => N3
      refine SB.mul m1.out fun t7 k7 => ?_
      repeat' tb_rel
      rename Fr _ _ _ _ => F4
      rename News _ _ _ _ => N4
      refine join_tuple (ys := gs) (by exact ⟨_, F4.keep _ _ gg, rfl, _, rfl⟩) (by simpa using sg2) (by have h1 := hgs.out.1; have h2 : (Str.length (Str.ofString "/")) = 1 := (by decide); rw [h2]; omega) fun t9 k9 => ?_
      have hj := hgs.out.2
      repeat' tb_rel
      rename Fr _ _ _ _ => F5
      rename News _ _ _ _ => N5
      (try dsimp only)
      have e : linkS bs.length gs way = Txt.mul (Str.ofString "../") ((bs.length : Int) - 1) ++ Txt.join (Str.ofString "/") gs := by unfold linkS; rw [if_neg hk0, if_pos hk1]
      rw [← e]
      exact ret _ _ _ (fun b x hx => F5.keep _ _ (hg1 b x hx (by simp)))
    · have hk1 : ¬ way = 1 := by intro h; subst h; simp at c2
      repeat' tb_rel
      rename Fr _ _ _ _ => F2
      rename News _ _ _ _ => N2
      refine len_tuple (items := vsb.toArray) (by exact ⟨_, F2.keep _ _ gb, rfl, _, rfl⟩) (by simp; omega) ?_
      rw [show vsb.toArray.size = bs.length from lb]
      have m0 := mul_ok bs.length hbl
      have m1 : Hid (MulOk (Str.ofString "../") (bs.length : Int)) := ⟨m0.1⟩
      have m2 := m0.2.2.1
      clear m0
      repeat' tb_rel
      rename Fr _ _ _ _ => F3
      rename News _ _ _ _ => N3
      refine SB.mul m1.out fun t7 k7 => ?_
      repeat' tb_rel
      rename Fr _ _ _ _ => F4
      rename News _ _ _ _ => N4
      refine join_tuple (ys := gs) (by exact ⟨_, F4.keep _ _ gg, rfl, _, rfl⟩) (by simpa using sg2) (by have h1 := hgs.out.1; have h2 : (Str.length (Str.ofString "/")) = 1 := (by decide); rw [h2]; omega) fun t9 k9 => ?_
      have hj := hgs.out.2
      repeat' tb_rel
      rename Fr _ _ _ _ => F5
      rename News _ _ _ _ => N5
      (try dsimp only)
      have e : linkS bs.length gs way = ((Str.ofString "./<&/../") ++ Txt.mul (Str.ofString "../") (bs.length : Int)) ++ Txt.join (Str.ofString "/") gs := by unfold linkS; rw [if_neg hk0, if_neg hk1]
      rw [← e]
      exact ret _ _ _ (fun b x hx => F5.keep _ _ (hg1 b x hx (by simp)))
end Mine
end

section
open PySem PySem.W PyProof.Rows PySem.Calls
set_option maxRecDepth 100000
set_option maxHeartbeats 1000000
namespace Mine
local macro_rules | `(tactic| tb_rel) => `(tactic| first | (goal_has PySem.W.Frag.In; (fail_if_success (with_reducible show wpAny _ _ (call (Value.ref _) _ _) _ _ _)); walk1) | (goal_lacks PySem.W.Frag.In; (with_reducible show wpAny _ _ _ _ _ _); (fail_if_success (with_reducible show wpAny _ _ (execs (PySem.Stmt.While _ _ _ _ :: _) _) _ _ _)); (fail_if_success (with_reducible show wpAny _ _ (execs (PySem.Stmt.For _ _ _ _ _ :: _) _) _ _ _)); (fail_if_success (with_reducible show wpAny _ _ (call (Value.ref _) _ _) _ _ _)); (fail_if_success (with_reducible show wpAny _ _ (pyIter _) _ _ _)); (fail_if_success (with_reducible show wpAny _ _ (call (Value.builtin "str.split") _ _) _ _ _)); (fail_if_success (with_reducible show wpAny _ _ (call (Value.ref _) _ _) _ _ _)); (fail_if_success (with_reducible show wpAny _ _ (exec (PySem.Stmt.Try _ _ _ _ _) _) _ _ _)); first | walk1 | (dsimp only; walk1)) | ((fail_if_success (with_reducible show wpAny _ _ _ _ _ _)); (with_reducible refine Mine.ite_t (by with_reducible first | rfl | exact True.intro) ?_)) | ((fail_if_success (with_reducible show wpAny _ _ _ _ _ _)); (with_reducible refine Mine.ite_f (by decide) ?_)) | fail "no step")
local macro_rules | `(tactic| tb_start) => `(tactic| first | (goal_has PySem.W.Frag.In; (fail_if_success (with_reducible show wpAny _ _ (call (Value.ref _) _ _) _ _ _)); walk1) | (goal_lacks PySem.W.Frag.In; (with_reducible show wpAny _ _ _ _ _ _); (fail_if_success (with_reducible show wpAny _ _ (execs (PySem.Stmt.While _ _ _ _ :: _) _) _ _ _)); (fail_if_success (with_reducible show wpAny _ _ (execs (PySem.Stmt.For _ _ _ _ _ :: _) _) _ _ _)); (fail_if_success (with_reducible show wpAny _ _ (execs (PySem.Stmt.If _ _ _ _ :: _) _) _ _ _)); (fail_if_success (with_reducible show wpAny _ _ (call (Value.ref _) _ _) _ _ _)); (fail_if_success (with_reducible show wpAny _ _ (pyIter _) _ _ _)); (fail_if_success (with_reducible show wpAny _ _ (call (Value.builtin "str.split") _ _) _ _ _)); (fail_if_success (with_reducible show wpAny _ _ (call (Value.ref _) _ _) _ _ _)); (fail_if_success (with_reducible show wpAny _ _ (exec (PySem.Stmt.Try _ _ _ _ _) _) _ _ _)); first | walk1 | (dsimp only; walk1)) | ((fail_if_success (with_reducible show wpAny _ _ _ _ _ _)); (with_reducible refine Mine.ite_t (by with_reducible first | rfl | exact True.intro) ?_)) | ((fail_if_success (with_reducible show wpAny _ _ _ _ _ _)); (with_reducible refine Mine.ite_f (by decide) ?_)) | fail "no step")
def tableS (kind : Nat) : List (Str × Str) :=
  if kind = 0 then [((Str.ofString "&"), (Str.ofString "&amp;")), ((Str.ofString "<"), (Str.ofString "&lt;")), ((Str.ofString ">"), (Str.ofString "&gt;")), ((Str.ofString "\""), (Str.ofString "&quot;")), ((Str.ofString "\t"), (Str.ofString "&#09;"))]
  else if kind = 1 then [((Str.ofString "&"), (Str.ofString "&amp;")), ((Str.ofString ">"), (Str.ofString "&gt;")), ((Str.ofString "\""), (Str.ofString "&quot;"))]
  else [((Str.ofString "&"), (Str.ofString "&amp;")), ((Str.ofString "<"), (Str.ofString "&lt;")), ((Str.ofString "\""), (Str.ofString "&quot;")), ((Str.ofString "\t"), (Str.ofString "&#x9;"))]

def TableAt (w : World) (h : Heap) (D : Addr) (ps : List (Str × Str)) : Prop := ∃ kvs, h.DictOf (strKind PySem.Challenge.pw_ik0194_01 w) D kvs ∧ All2 (fun (kv : Str × Value) (p : Str × Str) => kv.1 = p.1 ∧ ∃ t, kv.2 = .str p.2 t) kvs ps
theorem table_c {w : World} {s : Shared} {h₀ : Heap} {mean : ExcName → Option Value} {mg mb : Str → Option Value} (X : (hd.heap_39 w.params).In h₀) (T : TT mean mg mb h₀) (st : h₀.StaysIn s.heap) {kind : Nat} {tk : Tok} {R : Result → Shared → Prop} (hk : kind < 3)
  (ret : ∀ h' tk' D, Ext s.heap h' → s.heap.get? D = none → (D == sysModules) = false → TableAt w h' D (tableS kind) → R (.ok (.ret (.ref D))) { s with heap := h', toks := tk' }) :
  codeAny (MM w) (A0 480) (.call (.ref 206) ⟨[.int kind tk], []⟩) R s := by
  refine' enter (binds := [((Str.ofString "kind"), .int kind tk)]) [] X T st ?a1 ?a2 ?a3 ?a4 ?a5 ?a6 ?a7 ?a8 ?a9 ?a10 ?a11
  case a2 => k_is
  case a3 => k_is
  case a1 => intro q hq; cases hq
  case a4 => decide
  case a5 => exact BindsTo.of_eq rfl
  case a6 => exact locs rfl
  case a8 => exact rfl
  case a9 => exact rfl
  case a10 => exact rfl
  case a11 => decide
  intro g L h₁ Xg Tg hg1 hg2 hlt F N
  repeat' tb_rel
  rename Fr _ _ _ _ => F1
  rename News _ _ _ _ => N1
  have h206 : ∃ o, (hd.heap_39 w.params).lookup 206 = some o := ⟨_, by k_is⟩
  have hg206 : 206 < g.objs.size := let ⟨o, ho⟩ := h206; Heap.lt_size (Xg _ _ ho)
  have fin : ∀ (h' h1 : Heap), (∀ b o, g.get? b = some o → h1.get? b = some o) → g.objs.size < h1.objs.size → ∀ o, Heap.SameBut h1.objs.size (h1.push o) h' → Ext s.heap h' ∧ s.heap.get? h1.objs.size = none ∧ (h1.objs.size == sysModules) = false := fun h' h1 kp hlt o hS => by
    refine ⟨fun b x hx => ?_, ?_, ?_⟩
    · have q := kp _ _ (hg1 b x hx (by simp))
      rw [hS.2 b (Nat.ne_of_lt (Heap.lt_size q))]
      exact Heap.get?_push_of_some _ q
    · cases q : s.heap.get? h1.objs.size with
      | none => rfl
      | some x => exact absurd (Heap.lt_size (kp _ _ (hg1 _ x q (by simp)))) (Nat.lt_irrefl _)
    · exact beq_false_of_ne (fun e => by rw [e] at hlt; exact absurd (Nat.lt_trans hg206 hlt) (by decide))
  refine ite_b (fun c1 => ?_) (fun c1 => ?_)
  · obtain rfl : kind = 0 := by simpa using c1
    repeat' tb_rel
    refine ⟨[((Str.ofString "&"), _), ((Str.ofString "<"), _), ((Str.ofString ">"), _), ((Str.ofString "\""), _), ((Str.ofString "\t"), _)], ⟨rfl, rfl, rfl, rfl, rfl, rfl, rfl, rfl, rfl, rfl, trivial⟩, Heap.DictOf.new _, fun h' hD hS => ?_⟩
    dsimp only at hD hS ⊢
    have z := fin h' h₁ F1.keep (Nat.lt_of_le_of_lt F1.above F1.ns.lt) _ hS
    refine ret _ _ _ z.1 z.2.1 z.2.2 ⟨_, hD, ?_⟩
    exact ⟨⟨rfl, _, rfl⟩, ⟨rfl, _, rfl⟩, ⟨rfl, _, rfl⟩, ⟨rfl, _, rfl⟩, ⟨rfl, _, rfl⟩, trivial⟩
  · have hk0 : ¬ kind = 0 := by simpa using c1
    repeat' tb_rel
    refine ite_b (fun c2 => ?_) (fun c2 => ?_)
    · obtain rfl : kind = 1 := by have := eq_of_beq c2; omega
      repeat' tb_rel
      refine ⟨[((Str.ofString "&"), _), ((Str.ofString ">"), _), ((Str.ofString "\""), _)], ⟨rfl, rfl, rfl, rfl, rfl, rfl, trivial⟩, Heap.DictOf.new _, fun h' hD hS => ?_⟩
      dsimp only at hD hS ⊢
      have z := fin h' h₁ F1.keep (Nat.lt_of_le_of_lt F1.above F1.ns.lt) _ hS
      refine ret _ _ _ z.1 z.2.1 z.2.2 ⟨_, hD, ?_⟩
      exact ⟨⟨rfl, _, rfl⟩, ⟨rfl, _, rfl⟩, ⟨rfl, _, rfl⟩, trivial⟩
    · have hk1 : ¬ kind = 1 := by intro h; subst h; simp at c2
      obtain rfl : kind = 2 := by omega
      repeat' tb_rel
      refine ⟨[((Str.ofString "&"), _), ((Str.ofString "<"), _), ((Str.ofString "\""), _), ((Str.ofString "\t"), _)], ⟨rfl, rfl, rfl, rfl, rfl, rfl, rfl, rfl, trivial⟩, Heap.DictOf.new _, fun h' hD hS => ?_⟩
      dsimp only at hD hS ⊢
      have z := fin h' h₁ F1.keep (Nat.lt_of_le_of_lt F1.above F1.ns.lt) _ hS
      refine ret _ _ _ z.1 z.2.1 z.2.2 ⟨_, hD, ?_⟩
      exact ⟨⟨rfl, _, rfl⟩, ⟨rfl, _, rfl⟩, ⟨rfl, _, rfl⟩, ⟨rfl, _, rfl⟩, trivial⟩
end Mine
end

section
open PySem PySem.W PyProof.Rows PySem.Calls
set_option maxRecDepth 100000
set_option maxHeartbeats 1000000
namespace Mine
def tieOf (d : Nat) : Tie := (d % 5, d / 5 % 5, d / 25)
def tiesOf (ds : List Nat) : List Tie := [(0, 1, 0), (1, 2, 1), (2, 0, 2)] ++ ds.map tieOf
local macro_rules | `(tactic| tb_rel) => `(tactic| first | (goal_has PySem.W.Frag.In; (fail_if_success (with_reducible show wpAny _ _ (call (Value.ref _) _ _) _ _ _)); walk1) | (goal_lacks PySem.W.Frag.In; (with_reducible show wpAny _ _ _ _ _ _); (fail_if_success (with_reducible show wpAny _ _ (execs (PySem.Stmt.While _ _ _ _ :: _) _) _ _ _)); (fail_if_success (with_reducible show wpAny _ _ (execs (PySem.Stmt.For _ _ _ _ _ :: _) _) _ _ _)); (fail_if_success (with_reducible show wpAny _ _ (call (Value.ref _) _ _) _ _ _)); (fail_if_success (with_reducible show wpAny _ _ (pyIter _) _ _ _)); (fail_if_success (with_reducible show wpAny _ _ (call (Value.builtin "str.split") _ _) _ _ _)); (fail_if_success (with_reducible show wpAny _ _ (call (Value.ref _) _ _) _ _ _)); (fail_if_success (with_reducible show wpAny _ _ (exec (PySem.Stmt.Try _ _ _ _ _) _) _ _ _)); first | walk1 | (dsimp only; walk1)) | ((fail_if_success (with_reducible show wpAny _ _ _ _ _ _)); (with_reducible refine Mine.ite_t (by with_reducible first | rfl | exact True.intro) ?_)) | ((fail_if_success (with_reducible show wpAny _ _ _ _ _ _)); (with_reducible refine Mine.ite_f (by decide) ?_)) | fail "no step")
local macro_rules | `(tactic| tb_start) => `(tactic| first | (goal_has PySem.W.Frag.In; (fail_if_success (with_reducible show wpAny _ _ (call (Value.ref _) _ _) _ _ _)); walk1) | (goal_lacks PySem.W.Frag.In; (with_reducible show wpAny _ _ _ _ _ _); (fail_if_success (with_reducible show wpAny _ _ (execs (PySem.Stmt.While _ _ _ _ :: _) _) _ _ _)); (fail_if_success (with_reducible show wpAny _ _ (execs (PySem.Stmt.For _ _ _ _ _ :: _) _) _ _ _)); (fail_if_success (with_reducible show wpAny _ _ (execs (PySem.Stmt.If _ _ _ _ :: _) _) _ _ _)); (fail_if_success (with_reducible show wpAny _ _ (call (Value.ref _) _ _) _ _ _)); (fail_if_success (with_reducible show wpAny _ _ (pyIter _) _ _ _)); (fail_if_success (with_reducible show wpAny _ _ (call (Value.builtin "str.split") _ _) _ _ _)); (fail_if_success (with_reducible show wpAny _ _ (call (Value.ref _) _ _) _ _ _)); (fail_if_success (with_reducible show wpAny _ _ (exec (PySem.Stmt.Try _ _ _ _ _) _) _ _ _)); first | walk1 | (dsimp only; walk1)) | ((fail_if_success (with_reducible show wpAny _ _ _ _ _ _)); (with_reducible refine Mine.ite_t (by with_reducible first | rfl | exact True.intro) ?_)) | ((fail_if_success (with_reducible show wpAny _ _ _ _ _ _)); (with_reducible refine Mine.ite_f (by decide) ?_)) | fail "no step")
def TiesJ (D : Addr) (ds : List Nat) (i : Nat) (m : Str → Option Value) (news : List (Addr × Obj)) : Prop :=
  ∃ u vs n ts, m = bd u [((Str.ofString "ties"), .ref D)] ∧ news = (D, listOf vs n) :: ts ∧ Tups ts ∧ All2 (TieIn ts) vs.toList (tiesOf (ds.take i))
theorem ties_c {w : World} {s : Shared} {h₀ : Heap} {mean : ExcName → Option Value} {mg mb : Str → Option Value} (X : (hd.heap_39 w.params).In h₀) (T : TT mean mg mb h₀) (st : h₀.StaysIn s.heap) {ld : Addr} {items : Array Value} {ds : List Nat} {R : Result → Shared → Prop} (hl : s.heap.IsList ld items) (hi : All2 (fun v d => ∃ t, v = .int (d : Nat) t) items.toList ds) (hlen : ds.length ≤ 10) (hds : ∀ d ∈ ds, d < 75)
  (ret : ∀ h' tk' D vs n ts, Ext s.heap h' → Adds s.heap h' ((D, listOf vs n) :: ts) → Tups ts → All2 (TieIn ts) vs.toList (tiesOf ds) → R (.ok (.ret (.ref D))) { s with heap := h', toks := tk' }) :
  codeAny (MM w) (A0 480) (.call (.ref 227) ⟨[.ref ld], []⟩) R s := by
  obtain ⟨ol, hol, hol1, hol2⟩ := hl
  refine' enter (binds := [((Str.ofString "draws"), .ref ld)]) [] X T st ?a1 ?a2 ?a3 ?a4 ?a5 ?a6 ?a7 ?a8 ?a9 ?a10 ?a11
  case a2 => k_is
  case a3 => k_is
  case a1 => intro q hq; cases hq
  case a4 => decide
  case a5 => exact BindsTo.of_eq rfl
  case a6 => exact locs rfl
  case a8 => exact rfl
  case a9 => exact rfl
  case a10 => exact rfl
  case a11 => decide
  intro g L h₁ Xg Tg hg1 hg2 hlt F N
  have hlg : g.IsList ld items := ⟨_, hg1 _ _ hol (by simp), hol1, hol2⟩
  repeat' tb_rel
  rename Fr _ _ _ _ => F1
  rename News _ _ _ _ => N1
  rename Addr => D
  refine cut_ (fun s' => ∃ u h' tk' vs n ts, s' = { s with heap := h', toks := tk' } ∧ Fr g L h' (bd u [((Str.ofString "ties"), .ref D)]) ∧ News g L h' ((D, listOf vs n) :: ts) ∧ Tups ts ∧ All2 (TieIn ts) vs.toList (tiesOf ds)) ?_ ?_
  · refine wpAny_For ?_
    repeat' tb_rel
    rename Fr _ _ _ _ => F2
    rename News _ _ _ _ => N2
    refine iter_list (items := items) (TiesJ D ds) rfl F2 N2 (fun i m news h _ F _ => let ⟨o, a, b⟩ := hlg; ⟨o, F.keep _ _ a, b⟩) ⟨_, _, _, _, (bd_eq (bdOk_all (by exact ⟨rfl, trivial⟩))).symm, rfl, ?_, ?_⟩ ?_ ?_
    · intro p hp
      rcases List.mem_cons.mp hp with rfl | hp
      · rfl
      · rcases List.mem_cons.mp hp with rfl | hp
        · rfl
        · rcases List.mem_cons.mp hp with rfl | hp
          · rfl
          · cases hp
    · exact ⟨⟨_, _, _, _, rfl, .tail _ (.tail _ (.head _))⟩, ⟨_, _, _, _, rfl, .tail _ (.head _)⟩, ⟨_, _, _, _, rfl, .head _⟩, trivial⟩
    · rintro i v m news h tk I io hI hv ⟨u, vs, n, ts, rfl, rfl, hT, hA⟩ F3 N3 hn
      obtain ⟨d, hd, t, rfl⟩ := hi.get (by simpa using hv)
      have hlv : vs.size ≤ 100 := by
        have h1 := hA.length
        simp [tiesOf] at h1
        omega
      repeat' tb_rel
      rename Fr _ _ _ _ => F4
      rename News _ _ _ _ => N4
      rename Addr => T1
      rename I < T1 ∧ _ => l1
      refine append_K (D := D) F4 N4 (.tail (Nat.ne_of_gt l1.2.1) (.tail (hn _ (.head _)).symm (.head (fun p hp => tup_ne N4 (.tail _ (.tail _ (.tail _ hp))) (.tail _ (.tail _ (.head _))) (hT p hp))))) (fun h5 F5 N5 => ?_) (by rw [sizeLine_eq]; omega)
      repeat' tb_rel
      rename Fr _ _ _ _ => F6
      rename News _ _ _ _ => N6
      dsimp only
      refine ⟨_, _, _, _ :: _ :: ts, rfl, fr_bd F6 [((Str.ofString "ties"), .ref D)] ⟨rfl, trivial⟩, news_bca N6, ?_, ⟨_, _, _, _ :: ts, rfl, rfl, ?_, ?_⟩⟩
      · intro p hp
        rcases List.mem_cons.mp hp with rfl | hp
        · exact hn (D, listOf vs n) (.head _)
        · rcases List.mem_cons.mp hp with rfl | hp
          · exact Nat.ne_of_gt l1.1
          · exact hn p (.tail _ hp)
      · intro p hp
        rcases List.mem_cons.mp hp with rfl | hp
        · rfl
        · exact hT p hp
      · rw [Array.toList_push, List.take_add_one, hd]
        have e : tiesOf (List.take i ds ++ (some d).toList) = tiesOf (List.take i ds) ++ [tieOf d] := by simp [tiesOf]
        rw [e]
        refine (hA.imp fun _ _ q => q.mono fun p hp => .tail _ hp).append ⟨⟨_, ?_, ?_, ?_, rfl, ?_⟩, trivial⟩
        rotate_left 3
        · have f1 : (d : Int).fmod 5 = ((d % 5 : Nat) : Int) := fmod_nat d 5
          have f2 : (d : Int).fdiv 5 = ((d / 5 : Nat) : Int) := fdiv_nat d 5
          have f3 : (d : Int).fdiv 25 = ((d / 25 : Nat) : Int) := fdiv_nat d 25
          have f4 : ((d / 5 : Nat) : Int).fmod 5 = ((d / 5 % 5 : Nat) : Int) := fmod_nat (d / 5) 5
          rw [f1, f2, f3, f4]
          exact .head _
    · rintro m news h tk ⟨u, vs, n, ts, rfl, rfl, hT, hA⟩ F3 N3
      refine ⟨rfl, u, h, tk, vs, n, ts, rfl, F3, N3, hT, ?_⟩
      have e : items.size = ds.length := hi.length
      rw [e, List.take_length] at hA
      exact hA
  · rintro s' ⟨u, h2, tk2, vs, n, ts, rfl, F3, N3, hT, hA⟩
    repeat' tb_rel
    rename Fr _ _ _ _ => F4
    rename News _ _ _ _ => N4
    dsimp only
    exact ret _ _ D vs n ts (fun b x hx => F4.keep _ _ (hg1 b x hx (by simp))) (adds_of N4 (fun p hp => hp) hg1) hT hA
end Mine
end

section
open PySem PySem.W PyProof.Rows PySem.Calls
set_option maxRecDepth 100000
namespace Mine
/-! replacing, on lists of signs -/
def replL (y z : List Nat) : Nat → List Nat → List Nat
  | 0, l => l
  | _ + 1, [] => []
  | n + 1, a :: r => if ((a :: r).take y.length == y) = true then z ++ replL y z n ((a :: r).drop y.length) else a :: replL y z n r
section
variable {y z X : List Nat}
def hitAt (y X : List Nat) (k : Nat) : Bool := (X.drop k).take y.length == y
theorem replL_hit {n c : Nat} (hy : 1 ≤ y.length) (h : hitAt y X c = true) : replL y z (n + 1) (X.drop c) = z ++ replL y z n (X.drop (c + y.length)) := by
  unfold hitAt at h
  cases hd : X.drop c with
  | nil =>
    rw [hd] at h
    have := eq_of_beq h
    rw [← this] at hy
    simp at hy
  | cons a r =>
    rw [hd] at h
    rw [replL, if_pos h, ← hd, List.drop_drop]
theorem replL_seg : ∀ d n a, (∀ k, a ≤ k → k < a + d → hitAt y X k = false) → a + d ≤ X.length → replL y z (n + d) (X.drop a) = (X.drop a).take d ++ replL y z n (X.drop (a + d))
  | 0, n, a, _, _ => by simp
  | d + 1, n, a, h, hl => by
    have ha : a < X.length := by omega
    have h0 := h a (Nat.le_refl _) (by omega)
    unfold hitAt at h0
    have ih := replL_seg d n (a + 1) (fun k h1 h2 => h k (by omega) (by omega)) (by omega)
    rw [List.drop_eq_getElem_cons ha] at h0 ⊢
    rw [show n + (d + 1) = (n + d) + 1 by omega]
    rw [replL, if_neg (by rw [h0]; exact Bool.false_ne_true), ih, List.take_succ_cons, List.cons_append, show a + 1 + d = a + (d + 1) by omega]
theorem replL_tail : ∀ n a, (∀ k, a ≤ k → hitAt y X k = false) → replL y z n (X.drop a) = X.drop a
  | 0, _, _ => rfl
  | n + 1, a, h => by
    by_cases ha : a < X.length
    · have h0 := h a (Nat.le_refl _)
      unfold hitAt at h0
      have ih := replL_tail n (a + 1) fun k hk => h k (by omega)
      rw [List.drop_eq_getElem_cons ha] at h0 ⊢
      rw [replL, if_neg (by rw [h0]; exact Bool.false_ne_true), ih]
    · rw [List.drop_eq_nil_of_le (by omega)]
      rfl
end
theorem LL_app (a b : Str) : (a ++ b).cps.toList = a.cps.toList ++ b.cps.toList := by rw [Str.cps_append, Array.toList_append]
theorem LL_join (y a b : Str) (r : List Str) : (Str.join y (a :: b :: r)).cps.toList = a.cps.toList ++ y.cps.toList ++ (Str.join y (b :: r)).cps.toList := by
  show (a ++ y ++ Str.join y (b :: r)).cps.toList = _
  rw [LL_app, LL_app]
theorem strL {a b : Str} (h : a.cps.toList = b.cps.toList) : a = b := by
  obtain ⟨⟨x⟩⟩ := a
  obtain ⟨⟨y⟩⟩ := b
  exact congrArg (fun l => Str.mk (Array.mk l)) h
theorem lenL (x : Str) : x.cps.toList.length = x.length := by rw [Array.length_toList]; rfl
theorem at_hit {x y : Str} {i : Nat} (hy : 1 ≤ y.length) : StrLaws.At x y x.length i ↔ hitAt y.cps.toList x.cps.toList i = true := by
  unfold StrLaws.At hitAt
  rw [StrLaws.subAt_eq, lenL]
  refine ⟨fun h => h.2, fun h => ⟨?_, h⟩⟩
  have e := congrArg List.length (eq_of_beq h)
  rw [List.length_take, List.length_drop, lenL, lenL] at e
  omega
theorem at_miss {x y : Str} {i : Nat} (hy : 1 ≤ y.length) (h : ¬ StrLaws.At x y x.length i) : hitAt y.cps.toList x.cps.toList i = false := by
  cases q : hitAt y.cps.toList x.cps.toList i with
  | false => rfl
  | true => exact absurd ((at_hit hy).mpr q) h
theorem chain_L {x y : Str} (z : Str) (hy : 1 ≤ y.length) : ∀ (cuts : List Nat) (a f n : Nat), StrLaws.ChainG x y x.length a cuts f → (∀ k, f ≤ k → ¬ StrLaws.At x y x.length k) → x.length ≤ n + a →
    (Str.join z (StrLaws.partsFrom x y.length a cuts)).cps.toList = replL y.cps.toList z.cps.toList n (x.cps.toList.drop a)
  | [], a, f, n, h, hn, _ => by
    obtain rfl : f = a := h
    rw [replL_tail n f fun k hk => at_miss hy (hn k hk)]
    show (Builtin.Str.strSub x f x.length).cps.toList = _
    rw [StrLaws.strSub_toList, List.take_of_length_le]
    rw [List.length_drop, lenL]
    exact Nat.le_refl _
  | c :: r, a, f, n, h, hn, hl => by
    obtain ⟨hac, hat, hno, hr⟩ := h
    have hc := hat.1
    obtain ⟨p, q, e⟩ := StrLaws.partsFrom_ne x y.length (c + y.length) r
    obtain ⟨m, rfl⟩ : ∃ m, n = m + 1 + (c - a) := ⟨n - 1 - (c - a), by omega⟩
    have ih := chain_L z hy r (c + y.length) f m hr hn (by omega)
    show (Str.join z (Builtin.Str.strSub x a c :: StrLaws.partsFrom x y.length (c + y.length) r)).cps.toList = _
    rw [e] at ih ⊢
    rw [LL_join, ih, replL_seg (c - a) (m + 1) a (fun k h1 h2 => at_miss hy (hno k h1 (by omega))) (by rw [lenL]; omega), show a + (c - a) = c by omega, replL_hit (by rw [lenL]; exact hy) ((at_hit hy).mp hat), StrLaws.strSub_toList, lenL, List.append_assoc]
theorem replace_L {x y z : Str} (hy : 1 ≤ y.length) : (Txt.replace x y z).cps.toList = replL y.cps.toList z.cps.toList x.cps.toList.length x.cps.toList := by
  obtain ⟨f, hch, hend⟩ := StrLaws.occ_tight x y hy
  have h := chain_L z hy _ 0 f x.cps.toList.length hch hend (by rw [lenL]; omega)
  rw [List.drop_zero] at h
  rw [← h]
  unfold Txt.replace
  split
  · rename_i hc
    rcases Bool.or_eq_true _ _ ▸ hc with hc | hc
    · rw [List.isEmpty_iff.mp hc]
      show x.cps.toList = (Builtin.Str.strSub x 0 x.length).cps.toList
      rw [StrLaws.strSub_toList, List.drop_zero, List.take_of_length_le]
      rw [lenL]; omega
    · simp only [Bool.and_eq_true, beq_iff_eq] at hc
      omega
  · rw [StrLaws.partsBetween_eq, StrLaws.glued_eq_join]
theorem rep_L {x y z : Str} (hy : 1 ≤ y.length) : (rep x y z).cps.toList = replL y.cps.toList z.cps.toList x.cps.toList.length x.cps.toList := by
  unfold rep
  split
  · exact replace_L hy
  · rename_i hc
    have hno : ∀ k, 0 ≤ k → hitAt y.cps.toList x.cps.toList k = false := fun k _ => at_miss hy fun h => hc ((StrLaws.found_iff x y).mpr ⟨k, h⟩)
    have := replL_tail (z := z.cps.toList) x.cps.toList.length 0 hno
    rw [List.drop_zero] at this
    exact this.symm
/-- the tables as lists -/
def toLs (l : List (Str × Str)) : List (List Nat × List Nat) := l.map fun p => (p.1.cps.toList, p.2.cps.toList)
def escL (t : List (List Nat × List Nat)) (l : List Nat) : List Nat := t.foldl (fun l p => replL p.1 p.2 l.length l) l
def backL (t : List (List Nat × List Nat)) (l : List Nat) : List Nat := t.foldl (fun l p => replL p.2 p.1 l.length l) l
theorem esc_L : ∀ (t : List (Str × Str)) (x : Str), (∀ p ∈ t, 1 ≤ p.1.length) → (esc t x).cps.toList = escL (toLs t) x.cps.toList
  | [], _, _ => rfl
  | p :: t, x, h => by
    have ih := esc_L t (rep x p.1 p.2) fun q hq => h q (.tail _ hq)
    rw [rep_L (h p (.head _))] at ih
    exact ih
end Mine
end

section
open PySem PySem.W PyProof.Rows PySem.Calls
set_option maxRecDepth 100000
set_option maxHeartbeats 1000000
namespace Mine
def placeN (k : Nat) : List Str := places.getD k []
def lk (t : Tie) : Str := linkS (placeN t.1).length (placeN t.2.1) t.2.2
def wl (kind : Nat) (t : Tie) : Str := wr kind (lk t)
def nameN (k : Nat) : Str := (Str.ofString "/") ++ Txt.join (Str.ofString "/") (placeN k)
def unescT : List (Str × Str) := [((Str.ofString "<"), (Str.ofString "&lt;")), ((Str.ofString ">"), (Str.ofString "&gt;")), ((Str.ofString "\""), (Str.ofString "&quot;")), ((Str.ofString "\t"), (Str.ofString "&#09;")), ((Str.ofString "\t"), (Str.ofString "&#x9;")), ((Str.ofString "&"), (Str.ofString "&amp;"))]
def unesc (l : List (Str × Str)) (x : Str) : Str := l.foldl (fun x p => Txt.replace x p.2 p.1) x
def LkOk (kind : Nat) (x : Str) : Prop := WrOk kind x ∧ (wr kind x).length ≤ 200 ∧ x.length ≤ 200
def links : List Str := ([0, 1, 2, 3, 4].map fun g => linkS 1 (placeN g) 0) ++ ([0, 1, 2, 3, 4].flatMap fun g => [1, 2, 3].flatMap fun bl => [linkS bl (placeN g) 1, linkS bl (placeN g) 2])

theorem replace_len (x y z : Str) : (Txt.replace x y z).length = x.length ∨ ∃ n s, x.length = s + n * y.length ∧ (Txt.replace x y z).length = s + n * z.length := by
  unfold Txt.replace
  split
  · exact .inl rfl
  · refine .inr ⟨(Builtin.Str.occurrences x y 0 x.length (x.length + 1)).length, ((Builtin.Str.partsBetween x (Builtin.Str.occurrences x y 0 x.length (x.length + 1)) y.length).map (·.length)).sum, ?_, ?_⟩
    · have hy : (Builtin.Str.glued y (Builtin.Str.partsBetween x (Builtin.Str.occurrences x y 0 x.length (x.length + 1)) y.length)).length = x.length := by rw [StrLaws.glued_between_self]
      rw [size_glued, length_partsBetween, Nat.add_sub_cancel] at hy
      exact hy.symm
    · rw [size_glued, length_partsBetween, Nat.add_sub_cancel]
theorem replace_le {x y z : Str} (h : z.length ≤ y.length) : (Txt.replace x y z).length ≤ x.length := by
  rcases replace_len x y z with e | ⟨n, s, e1, e2⟩
  · omega
  · rw [e1, e2]
    exact Nat.add_le_add_left (Nat.mul_le_mul_left _ h) _
theorem replace_ge {x y z : Str} (h : y.length ≤ z.length) : x.length ≤ (Txt.replace x y z).length := by
  rcases replace_len x y z with e | ⟨n, s, e1, e2⟩
  · omega
  · rw [e1, e2]
    exact Nat.add_le_add_left (Nat.mul_le_mul_left _ h) _
theorem esc_ge : ∀ (l : List (Str × Str)) (x : Str), (∀ p ∈ l, p.1.length ≤ p.2.length) → x.length ≤ (esc l x).length
  | [], _, _ => Nat.le_refl _
  | p :: r, x, h => by
    have h1 : x.length ≤ (rep x p.1 p.2).length := by
      unfold rep
      split
      · exact replace_ge (h p (.head _))
      · exact Nat.le_refl _
    exact Nat.le_trans h1 (esc_ge r (rep x p.1 p.2) fun q hq => h q (.tail _ hq))
theorem esc_take (l : List (Str × Str)) (x : Str) (k : Nat) (h : ∀ p ∈ l, p.1.length ≤ p.2.length) : (esc (l.take k) x).length ≤ (esc l x).length := by
  have e : esc l x = esc (l.drop k) (esc (l.take k) x) := by
    unfold esc
    rw [← List.foldl_append, List.take_append_drop]
  rw [e]
  exact esc_ge _ _ fun p hp => h p (List.mem_of_mem_drop hp)
theorem unesc_le : ∀ (l : List (Str × Str)) (x : Str), (∀ p ∈ l, p.1.length ≤ p.2.length) → (unesc l x).length ≤ x.length
  | [], _, _ => Nat.le_refl _
  | p :: r, x, h => Nat.le_trans (unesc_le r _ fun q hq => h q (.tail _ hq)) (replace_le (h p (.head _)))
def tabF (kind : Nat) (c : Nat) : Nat := match (tabK kind).find? (fun p => decide (p.1 = ⟨#[c]⟩)) with | some p => p.2.length | none => 1
def linksL : List (List Nat) := [[47, 105], [47, 97, 38, 47, 105], [47, 97, 38, 47, 60], [47, 97, 38, 47, 34, 47, 62, 9], [47, 105, 60, 47, 34, 105], [105], [46, 47, 60, 38, 47, 46, 46, 47, 46, 46, 47, 105], [46, 46, 47, 105], [46, 47, 60, 38, 47, 46, 46, 47, 46, 46, 47, 46, 46, 47, 105], [46, 46, 47, 46, 46, 47, 105], [46, 47, 60, 38, 47, 46, 46, 47, 46, 46, 47, 46, 46, 47, 46, 46, 47, 105], [97, 38, 47, 105], [46, 47, 60, 38, 47, 46, 46, 47, 46, 46, 47, 97, 38, 47, 105], [46, 46, 47, 97, 38, 47, 105], [46, 47, 60, 38, 47, 46, 46, 47, 46, 46, 47, 46, 46, 47, 97, 38, 47, 105], [46, 46, 47, 46, 46, 47, 97, 38, 47, 105], [46, 47, 60, 38, 47, 46, 46, 47, 46, 46, 47, 46, 46, 47, 46, 46, 47, 97, 38, 47, 105], [97, 38, 47, 60], [46, 47, 60, 38, 47, 46, 46, 47, 46, 46, 47, 97, 38, 47, 60], [46, 46, 47, 97, 38, 47, 60], [46, 47, 60, 38, 47, 46, 46, 47, 46, 46, 47, 46, 46, 47, 97, 38, 47, 60], [46, 46, 47, 46, 46, 47, 97, 38, 47, 60], [46, 47, 60, 38, 47, 46, 46, 47, 46, 46, 47, 46, 46, 47, 46, 46, 47, 97, 38, 47, 60], [97, 38, 47, 34, 47, 62, 9], [46, 47, 60, 38, 47, 46, 46, 47, 46, 46, 47, 97, 38, 47, 34, 47, 62, 9], [46, 46, 47, 97, 38, 47, 34, 47, 62, 9], [46, 47, 60, 38, 47, 46, 46, 47, 46, 46, 47, 46, 46, 47, 97, 38, 47, 34, 47, 62, 9], [46, 46, 47, 46, 46, 47, 97, 38, 47, 34, 47, 62, 9], [46, 47, 60, 38, 47, 46, 46, 47, 46, 46, 47, 46, 46, 47, 46, 46, 47, 97, 38, 47, 34, 47, 62, 9], [105, 60, 47, 34, 105], [46, 47, 60, 38, 47, 46, 46, 47, 46, 46, 47, 105, 60, 47, 34, 105], [46, 46, 47, 105, 60, 47, 34, 105], [46, 47, 60, 38, 47, 46, 46, 47, 46, 46, 47, 46, 46, 47, 105, 60, 47, 34, 105], [46, 46, 47, 46, 46, 47, 105, 60, 47, 34, 105], [46, 47, 60, 38, 47, 46, 46, 47, 46, 46, 47, 46, 46, 47, 46, 46, 47, 105, 60, 47, 34, 105]]
def rowsL0 : List (List Nat × List Nat) := [([47, 105], [47, 105]), ([47, 97, 38, 47, 105], [47, 97, 38, 97, 109, 112, 59, 47, 105]), ([47, 97, 38, 47, 60], [47, 97, 38, 97, 109, 112, 59, 47, 38, 108, 116, 59]), ([47, 97, 38, 47, 34, 47, 62, 9], [47, 97, 38, 97, 109, 112, 59, 47, 38, 113, 117, 111, 116, 59, 47, 38, 103, 116, 59, 38, 35, 48, 57, 59]), ([47, 105, 60, 47, 34, 105], [47, 105, 38, 108, 116, 59, 47, 38, 113, 117, 111, 116, 59, 105]), ([105], [105]), ([46, 47, 60, 38, 47, 46, 46, 47, 46, 46, 47, 105], [46, 47, 38, 108, 116, 59, 38, 97, 109, 112, 59, 47, 46, 46, 47, 46, 46, 47, 105]), ([46, 46, 47, 105], [46, 46, 47, 105]), ([46, 47, 60, 38, 47, 46, 46, 47, 46, 46, 47, 46, 46, 47, 105], [46, 47, 38, 108, 116, 59, 38, 97, 109, 112, 59, 47, 46, 46, 47, 46, 46, 47, 46, 46, 47, 105]), ([46, 46, 47, 46, 46, 47, 105], [46, 46, 47, 46, 46, 47, 105]), ([46, 47, 60, 38, 47, 46, 46, 47, 46, 46, 47, 46, 46, 47, 46, 46, 47, 105], [46, 47, 38, 108, 116, 59, 38, 97, 109, 112, 59, 47, 46, 46, 47, 46, 46, 47, 46, 46, 47, 46, 46, 47, 105]), ([97, 38, 47, 105], [97, 38, 97, 109, 112, 59, 47, 105]), ([46, 47, 60, 38, 47, 46, 46, 47, 46, 46, 47, 97, 38, 47, 105], [46, 47, 38, 108, 116, 59, 38, 97, 109, 112, 59, 47, 46, 46, 47, 46, 46, 47, 97, 38, 97, 109, 112, 59, 47, 105]), ([46, 46, 47, 97, 38, 47, 105], [46, 46, 47, 97, 38, 97, 109, 112, 59, 47, 105]), ([46, 47, 60, 38, 47, 46, 46, 47, 46, 46, 47, 46, 46, 47, 97, 38, 47, 105], [46, 47, 38, 108, 116, 59, 38, 97, 109, 112, 59, 47, 46, 46, 47, 46, 46, 47, 46, 46, 47, 97, 38, 97, 109, 112, 59, 47, 105]), ([46, 46, 47, 46, 46, 47, 97, 38, 47, 105], [46, 46, 47, 46, 46, 47, 97, 38, 97, 109, 112, 59, 47, 105]), ([46, 47, 60, 38, 47, 46, 46, 47, 46, 46, 47, 46, 46, 47, 46, 46, 47, 97, 38, 47, 105], [46, 47, 38, 108, 116, 59, 38, 97, 109, 112, 59, 47, 46, 46, 47, 46, 46, 47, 46, 46, 47, 46, 46, 47, 97, 38, 97, 109, 112, 59, 47, 105]), ([97, 38, 47, 60], [97, 38, 97, 109, 112, 59, 47, 38, 108, 116, 59]), ([46, 47, 60, 38, 47, 46, 46, 47, 46, 46, 47, 97, 38, 47, 60], [46, 47, 38, 108, 116, 59, 38, 97, 109, 112, 59, 47, 46, 46, 47, 46, 46, 47, 97, 38, 97, 109, 112, 59, 47, 38, 108, 116, 59]), ([46, 46, 47, 97, 38, 47, 60], [46, 46, 47, 97, 38, 97, 109, 112, 59, 47, 38, 108, 116, 59]), ([46, 47, 60, 38, 47, 46, 46, 47, 46, 46, 47, 46, 46, 47, 97, 38, 47, 60], [46, 47, 38, 108, 116, 59, 38, 97, 109, 112, 59, 47, 46, 46, 47, 46, 46, 47, 46, 46, 47, 97, 38, 97, 109, 112, 59, 47, 38, 108, 116, 59]), ([46, 46, 47, 46, 46, 47, 97, 38, 47, 60], [46, 46, 47, 46, 46, 47, 97, 38, 97, 109, 112, 59, 47, 38, 108, 116, 59]), ([46, 47, 60, 38, 47, 46, 46, 47, 46, 46, 47, 46, 46, 47, 46, 46, 47, 97, 38, 47, 60], [46, 47, 38, 108, 116, 59, 38, 97, 109, 112, 59, 47, 46, 46, 47, 46, 46, 47, 46, 46, 47, 46, 46, 47, 97, 38, 97, 109, 112, 59, 47, 38, 108, 116, 59]), ([97, 38, 47, 34, 47, 62, 9], [97, 38, 97, 109, 112, 59, 47, 38, 113, 117, 111, 116, 59, 47, 38, 103, 116, 59, 38, 35, 48, 57, 59]), ([46, 47, 60, 38, 47, 46, 46, 47, 46, 46, 47, 97, 38, 47, 34, 47, 62, 9], [46, 47, 38, 108, 116, 59, 38, 97, 109, 112, 59, 47, 46, 46, 47, 46, 46, 47, 97, 38, 97, 109, 112, 59, 47, 38, 113, 117, 111, 116, 59, 47, 38, 103, 116, 59, 38, 35, 48, 57, 59]), ([46, 46, 47, 97, 38, 47, 34, 47, 62, 9], [46, 46, 47, 97, 38, 97, 109, 112, 59, 47, 38, 113, 117, 111, 116, 59, 47, 38, 103, 116, 59, 38, 35, 48, 57, 59]), ([46, 47, 60, 38, 47, 46, 46, 47, 46, 46, 47, 46, 46, 47, 97, 38, 47, 34, 47, 62, 9], [46, 47, 38, 108, 116, 59, 38, 97, 109, 112, 59, 47, 46, 46, 47, 46, 46, 47, 46, 46, 47, 97, 38, 97, 109, 112, 59, 47, 38, 113, 117, 111, 116, 59, 47, 38, 103, 116, 59, 38, 35, 48, 57, 59]), ([46, 46, 47, 46, 46, 47, 97, 38, 47, 34, 47, 62, 9], [46, 46, 47, 46, 46, 47, 97, 38, 97, 109, 112, 59, 47, 38, 113, 117, 111, 116, 59, 47, 38, 103, 116, 59, 38, 35, 48, 57, 59]), ([46, 47, 60, 38, 47, 46, 46, 47, 46, 46, 47, 46, 46, 47, 46, 46, 47, 97, 38, 47, 34, 47, 62, 9], [46, 47, 38, 108, 116, 59, 38, 97, 109, 112, 59, 47, 46, 46, 47, 46, 46, 47, 46, 46, 47, 46, 46, 47, 97, 38, 97, 109, 112, 59, 47, 38, 113, 117, 111, 116, 59, 47, 38, 103, 116, 59, 38, 35, 48, 57, 59]), ([105, 60, 47, 34, 105], [105, 38, 108, 116, 59, 47, 38, 113, 117, 111, 116, 59, 105]), ([46, 47, 60, 38, 47, 46, 46, 47, 46, 46, 47, 105, 60, 47, 34, 105], [46, 47, 38, 108, 116, 59, 38, 97, 109, 112, 59, 47, 46, 46, 47, 46, 46, 47, 105, 38, 108, 116, 59, 47, 38, 113, 117, 111, 116, 59, 105]), ([46, 46, 47, 105, 60, 47, 34, 105], [46, 46, 47, 105, 38, 108, 116, 59, 47, 38, 113, 117, 111, 116, 59, 105]), ([46, 47, 60, 38, 47, 46, 46, 47, 46, 46, 47, 46, 46, 47, 105, 60, 47, 34, 105], [46, 47, 38, 108, 116, 59, 38, 97, 109, 112, 59, 47, 46, 46, 47, 46, 46, 47, 46, 46, 47, 105, 38, 108, 116, 59, 47, 38, 113, 117, 111, 116, 59, 105]), ([46, 46, 47, 46, 46, 47, 105, 60, 47, 34, 105], [46, 46, 47, 46, 46, 47, 105, 38, 108, 116, 59, 47, 38, 113, 117, 111, 116, 59, 105]), ([46, 47, 60, 38, 47, 46, 46, 47, 46, 46, 47, 46, 46, 47, 46, 46, 47, 105, 60, 47, 34, 105], [46, 47, 38, 108, 116, 59, 38, 97, 109, 112, 59, 47, 46, 46, 47, 46, 46, 47, 46, 46, 47, 46, 46, 47, 105, 38, 108, 116, 59, 47, 38, 113, 117, 111, 116, 59, 105])]
def tabL0 : List (List Nat × List Nat) := [([38], [38, 97, 109, 112, 59]), ([60], [38, 108, 116, 59]), ([62], [38, 103, 116, 59]), ([34], [38, 113, 117, 111, 116, 59]), ([13], [38, 35, 49, 51, 59]), ([10], [38, 35, 49, 48, 59]), ([9], [38, 35, 48, 57, 59])]
def rowsL1 : List (List Nat × List Nat) := [([47, 105], [47, 105]), ([47, 97, 38, 47, 105], [47, 97, 38, 97, 109, 112, 59, 47, 105]), ([47, 97, 38, 47, 60], [47, 97, 38, 97, 109, 112, 59, 47, 60]), ([47, 97, 38, 47, 34, 47, 62, 9], [47, 97, 38, 97, 109, 112, 59, 47, 38, 113, 117, 111, 116, 59, 47, 38, 103, 116, 59, 9]), ([47, 105, 60, 47, 34, 105], [47, 105, 60, 47, 38, 113, 117, 111, 116, 59, 105]), ([105], [105]), ([46, 47, 60, 38, 47, 46, 46, 47, 46, 46, 47, 105], [46, 47, 60, 38, 97, 109, 112, 59, 47, 46, 46, 47, 46, 46, 47, 105]), ([46, 46, 47, 105], [46, 46, 47, 105]), ([46, 47, 60, 38, 47, 46, 46, 47, 46, 46, 47, 46, 46, 47, 105], [46, 47, 60, 38, 97, 109, 112, 59, 47, 46, 46, 47, 46, 46, 47, 46, 46, 47, 105]), ([46, 46, 47, 46, 46, 47, 105], [46, 46, 47, 46, 46, 47, 105]), ([46, 47, 60, 38, 47, 46, 46, 47, 46, 46, 47, 46, 46, 47, 46, 46, 47, 105], [46, 47, 60, 38, 97, 109, 112, 59, 47, 46, 46, 47, 46, 46, 47, 46, 46, 47, 46, 46, 47, 105]), ([97, 38, 47, 105], [97, 38, 97, 109, 112, 59, 47, 105]), ([46, 47, 60, 38, 47, 46, 46, 47, 46, 46, 47, 97, 38, 47, 105], [46, 47, 60, 38, 97, 109, 112, 59, 47, 46, 46, 47, 46, 46, 47, 97, 38, 97, 109, 112, 59, 47, 105]), ([46, 46, 47, 97, 38, 47, 105], [46, 46, 47, 97, 38, 97, 109, 112, 59, 47, 105]), ([46, 47, 60, 38, 47, 46, 46, 47, 46, 46, 47, 46, 46, 47, 97, 38, 47, 105], [46, 47, 60, 38, 97, 109, 112, 59, 47, 46, 46, 47, 46, 46, 47, 46, 46, 47, 97, 38, 97, 109, 112, 59, 47, 105]), ([46, 46, 47, 46, 46, 47, 97, 38, 47, 105], [46, 46, 47, 46, 46, 47, 97, 38, 97, 109, 112, 59, 47, 105]), ([46, 47, 60, 38, 47, 46, 46, 47, 46, 46, 47, 46, 46, 47, 46, 46, 47, 97, 38, 47, 105], [46, 47, 60, 38, 97, 109, 112, 59, 47, 46, 46, 47, 46, 46, 47, 46, 46, 47, 46, 46, 47, 97, 38, 97, 109, 112, 59, 47, 105]), ([97, 38, 47, 60], [97, 38, 97, 109, 112, 59, 47, 60]), ([46, 47, 60, 38, 47, 46, 46, 47, 46, 46, 47, 97, 38, 47, 60], [46, 47, 60, 38, 97, 109, 112, 59, 47, 46, 46, 47, 46, 46, 47, 97, 38, 97, 109, 112, 59, 47, 60]), ([46, 46, 47, 97, 38, 47, 60], [46, 46, 47, 97, 38, 97, 109, 112, 59, 47, 60]), ([46, 47, 60, 38, 47, 46, 46, 47, 46, 46, 47, 46, 46, 47, 97, 38, 47, 60], [46, 47, 60, 38, 97, 109, 112, 59, 47, 46, 46, 47, 46, 46, 47, 46, 46, 47, 97, 38, 97, 109, 112, 59, 47, 60]), ([46, 46, 47, 46, 46, 47, 97, 38, 47, 60], [46, 46, 47, 46, 46, 47, 97, 38, 97, 109, 112, 59, 47, 60]), ([46, 47, 60, 38, 47, 46, 46, 47, 46, 46, 47, 46, 46, 47, 46, 46, 47, 97, 38, 47, 60], [46, 47, 60, 38, 97, 109, 112, 59, 47, 46, 46, 47, 46, 46, 47, 46, 46, 47, 46, 46, 47, 97, 38, 97, 109, 112, 59, 47, 60]), ([97, 38, 47, 34, 47, 62, 9], [97, 38, 97, 109, 112, 59, 47, 38, 113, 117, 111, 116, 59, 47, 38, 103, 116, 59, 9]), ([46, 47, 60, 38, 47, 46, 46, 47, 46, 46, 47, 97, 38, 47, 34, 47, 62, 9], [46, 47, 60, 38, 97, 109, 112, 59, 47, 46, 46, 47, 46, 46, 47, 97, 38, 97, 109, 112, 59, 47, 38, 113, 117, 111, 116, 59, 47, 38, 103, 116, 59, 9]), ([46, 46, 47, 97, 38, 47, 34, 47, 62, 9], [46, 46, 47, 97, 38, 97, 109, 112, 59, 47, 38, 113, 117, 111, 116, 59, 47, 38, 103, 116, 59, 9]), ([46, 47, 60, 38, 47, 46, 46, 47, 46, 46, 47, 46, 46, 47, 97, 38, 47, 34, 47, 62, 9], [46, 47, 60, 38, 97, 109, 112, 59, 47, 46, 46, 47, 46, 46, 47, 46, 46, 47, 97, 38, 97, 109, 112, 59, 47, 38, 113, 117, 111, 116, 59, 47, 38, 103, 116, 59, 9]), ([46, 46, 47, 46, 46, 47, 97, 38, 47, 34, 47, 62, 9], [46, 46, 47, 46, 46, 47, 97, 38, 97, 109, 112, 59, 47, 38, 113, 117, 111, 116, 59, 47, 38, 103, 116, 59, 9]), ([46, 47, 60, 38, 47, 46, 46, 47, 46, 46, 47, 46, 46, 47, 46, 46, 47, 97, 38, 47, 34, 47, 62, 9], [46, 47, 60, 38, 97, 109, 112, 59, 47, 46, 46, 47, 46, 46, 47, 46, 46, 47, 46, 46, 47, 97, 38, 97, 109, 112, 59, 47, 38, 113, 117, 111, 116, 59, 47, 38, 103, 116, 59, 9]), ([105, 60, 47, 34, 105], [105, 60, 47, 38, 113, 117, 111, 116, 59, 105]), ([46, 47, 60, 38, 47, 46, 46, 47, 46, 46, 47, 105, 60, 47, 34, 105], [46, 47, 60, 38, 97, 109, 112, 59, 47, 46, 46, 47, 46, 46, 47, 105, 60, 47, 38, 113, 117, 111, 116, 59, 105]), ([46, 46, 47, 105, 60, 47, 34, 105], [46, 46, 47, 105, 60, 47, 38, 113, 117, 111, 116, 59, 105]), ([46, 47, 60, 38, 47, 46, 46, 47, 46, 46, 47, 46, 46, 47, 105, 60, 47, 34, 105], [46, 47, 60, 38, 97, 109, 112, 59, 47, 46, 46, 47, 46, 46, 47, 46, 46, 47, 105, 60, 47, 38, 113, 117, 111, 116, 59, 105]), ([46, 46, 47, 46, 46, 47, 105, 60, 47, 34, 105], [46, 46, 47, 46, 46, 47, 105, 60, 47, 38, 113, 117, 111, 116, 59, 105]), ([46, 47, 60, 38, 47, 46, 46, 47, 46, 46, 47, 46, 46, 47, 46, 46, 47, 105, 60, 47, 34, 105], [46, 47, 60, 38, 97, 109, 112, 59, 47, 46, 46, 47, 46, 46, 47, 46, 46, 47, 46, 46, 47, 105, 60, 47, 38, 113, 117, 111, 116, 59, 105])]
def tabL1 : List (List Nat × List Nat) := [([38], [38, 97, 109, 112, 59]), ([62], [38, 103, 116, 59]), ([34], [38, 113, 117, 111, 116, 59])]
def rowsL2 : List (List Nat × List Nat) := [([47, 105], [47, 105]), ([47, 97, 38, 47, 105], [47, 97, 38, 97, 109, 112, 59, 47, 105]), ([47, 97, 38, 47, 60], [47, 97, 38, 97, 109, 112, 59, 47, 38, 108, 116, 59]), ([47, 97, 38, 47, 34, 47, 62, 9], [47, 97, 38, 97, 109, 112, 59, 47, 38, 113, 117, 111, 116, 59, 47, 62, 38, 35, 120, 57, 59]), ([47, 105, 60, 47, 34, 105], [47, 105, 38, 108, 116, 59, 47, 38, 113, 117, 111, 116, 59, 105]), ([105], [105]), ([46, 47, 60, 38, 47, 46, 46, 47, 46, 46, 47, 105], [46, 47, 38, 108, 116, 59, 38, 97, 109, 112, 59, 47, 46, 46, 47, 46, 46, 47, 105]), ([46, 46, 47, 105], [46, 46, 47, 105]), ([46, 47, 60, 38, 47, 46, 46, 47, 46, 46, 47, 46, 46, 47, 105], [46, 47, 38, 108, 116, 59, 38, 97, 109, 112, 59, 47, 46, 46, 47, 46, 46, 47, 46, 46, 47, 105]), ([46, 46, 47, 46, 46, 47, 105], [46, 46, 47, 46, 46, 47, 105]), ([46, 47, 60, 38, 47, 46, 46, 47, 46, 46, 47, 46, 46, 47, 46, 46, 47, 105], [46, 47, 38, 108, 116, 59, 38, 97, 109, 112, 59, 47, 46, 46, 47, 46, 46, 47, 46, 46, 47, 46, 46, 47, 105]), ([97, 38, 47, 105], [97, 38, 97, 109, 112, 59, 47, 105]), ([46, 47, 60, 38, 47, 46, 46, 47, 46, 46, 47, 97, 38, 47, 105], [46, 47, 38, 108, 116, 59, 38, 97, 109, 112, 59, 47, 46, 46, 47, 46, 46, 47, 97, 38, 97, 109, 112, 59, 47, 105]), ([46, 46, 47, 97, 38, 47, 105], [46, 46, 47, 97, 38, 97, 109, 112, 59, 47, 105]), ([46, 47, 60, 38, 47, 46, 46, 47, 46, 46, 47, 46, 46, 47, 97, 38, 47, 105], [46, 47, 38, 108, 116, 59, 38, 97, 109, 112, 59, 47, 46, 46, 47, 46, 46, 47, 46, 46, 47, 97, 38, 97, 109, 112, 59, 47, 105]), ([46, 46, 47, 46, 46, 47, 97, 38, 47, 105], [46, 46, 47, 46, 46, 47, 97, 38, 97, 109, 112, 59, 47, 105]), ([46, 47, 60, 38, 47, 46, 46, 47, 46, 46, 47, 46, 46, 47, 46, 46, 47, 97, 38, 47, 105], [46, 47, 38, 108, 116, 59, 38, 97, 109, 112, 59, 47, 46, 46, 47, 46, 46, 47, 46, 46, 47, 46, 46, 47, 97, 38, 97, 109, 112, 59, 47, 105]), ([97, 38, 47, 60], [97, 38, 97, 109, 112, 59, 47, 38, 108, 116, 59]), ([46, 47, 60, 38, 47, 46, 46, 47, 46, 46, 47, 97, 38, 47, 60], [46, 47, 38, 108, 116, 59, 38, 97, 109, 112, 59, 47, 46, 46, 47, 46, 46, 47, 97, 38, 97, 109, 112, 59, 47, 38, 108, 116, 59]), ([46, 46, 47, 97, 38, 47, 60], [46, 46, 47, 97, 38, 97, 109, 112, 59, 47, 38, 108, 116, 59]), ([46, 47, 60, 38, 47, 46, 46, 47, 46, 46, 47, 46, 46, 47, 97, 38, 47, 60], [46, 47, 38, 108, 116, 59, 38, 97, 109, 112, 59, 47, 46, 46, 47, 46, 46, 47, 46, 46, 47, 97, 38, 97, 109, 112, 59, 47, 38, 108, 116, 59]), ([46, 46, 47, 46, 46, 47, 97, 38, 47, 60], [46, 46, 47, 46, 46, 47, 97, 38, 97, 109, 112, 59, 47, 38, 108, 116, 59]), ([46, 47, 60, 38, 47, 46, 46, 47, 46, 46, 47, 46, 46, 47, 46, 46, 47, 97, 38, 47, 60], [46, 47, 38, 108, 116, 59, 38, 97, 109, 112, 59, 47, 46, 46, 47, 46, 46, 47, 46, 46, 47, 46, 46, 47, 97, 38, 97, 109, 112, 59, 47, 38, 108, 116, 59]), ([97, 38, 47, 34, 47, 62, 9], [97, 38, 97, 109, 112, 59, 47, 38, 113, 117, 111, 116, 59, 47, 62, 38, 35, 120, 57, 59]), ([46, 47, 60, 38, 47, 46, 46, 47, 46, 46, 47, 97, 38, 47, 34, 47, 62, 9], [46, 47, 38, 108, 116, 59, 38, 97, 109, 112, 59, 47, 46, 46, 47, 46, 46, 47, 97, 38, 97, 109, 112, 59, 47, 38, 113, 117, 111, 116, 59, 47, 62, 38, 35, 120, 57, 59]), ([46, 46, 47, 97, 38, 47, 34, 47, 62, 9], [46, 46, 47, 97, 38, 97, 109, 112, 59, 47, 38, 113, 117, 111, 116, 59, 47, 62, 38, 35, 120, 57, 59]), ([46, 47, 60, 38, 47, 46, 46, 47, 46, 46, 47, 46, 46, 47, 97, 38, 47, 34, 47, 62, 9], [46, 47, 38, 108, 116, 59, 38, 97, 109, 112, 59, 47, 46, 46, 47, 46, 46, 47, 46, 46, 47, 97, 38, 97, 109, 112, 59, 47, 38, 113, 117, 111, 116, 59, 47, 62, 38, 35, 120, 57, 59]), ([46, 46, 47, 46, 46, 47, 97, 38, 47, 34, 47, 62, 9], [46, 46, 47, 46, 46, 47, 97, 38, 97, 109, 112, 59, 47, 38, 113, 117, 111, 116, 59, 47, 62, 38, 35, 120, 57, 59]), ([46, 47, 60, 38, 47, 46, 46, 47, 46, 46, 47, 46, 46, 47, 46, 46, 47, 97, 38, 47, 34, 47, 62, 9], [46, 47, 38, 108, 116, 59, 38, 97, 109, 112, 59, 47, 46, 46, 47, 46, 46, 47, 46, 46, 47, 46, 46, 47, 97, 38, 97, 109, 112, 59, 47, 38, 113, 117, 111, 116, 59, 47, 62, 38, 35, 120, 57, 59]), ([105, 60, 47, 34, 105], [105, 38, 108, 116, 59, 47, 38, 113, 117, 111, 116, 59, 105]), ([46, 47, 60, 38, 47, 46, 46, 47, 46, 46, 47, 105, 60, 47, 34, 105], [46, 47, 38, 108, 116, 59, 38, 97, 109, 112, 59, 47, 46, 46, 47, 46, 46, 47, 105, 38, 108, 116, 59, 47, 38, 113, 117, 111, 116, 59, 105]), ([46, 46, 47, 105, 60, 47, 34, 105], [46, 46, 47, 105, 38, 108, 116, 59, 47, 38, 113, 117, 111, 116, 59, 105]), ([46, 47, 60, 38, 47, 46, 46, 47, 46, 46, 47, 46, 46, 47, 105, 60, 47, 34, 105], [46, 47, 38, 108, 116, 59, 38, 97, 109, 112, 59, 47, 46, 46, 47, 46, 46, 47, 46, 46, 47, 105, 38, 108, 116, 59, 47, 38, 113, 117, 111, 116, 59, 105]), ([46, 46, 47, 46, 46, 47, 105, 60, 47, 34, 105], [46, 46, 47, 46, 46, 47, 105, 38, 108, 116, 59, 47, 38, 113, 117, 111, 116, 59, 105]), ([46, 47, 60, 38, 47, 46, 46, 47, 46, 46, 47, 46, 46, 47, 46, 46, 47, 105, 60, 47, 34, 105], [46, 47, 38, 108, 116, 59, 38, 97, 109, 112, 59, 47, 46, 46, 47, 46, 46, 47, 46, 46, 47, 46, 46, 47, 105, 38, 108, 116, 59, 47, 38, 113, 117, 111, 116, 59, 105])]
def tabL2 : List (List Nat × List Nat) := [([38], [38, 97, 109, 112, 59]), ([60], [38, 108, 116, 59]), ([34], [38, 113, 117, 111, 116, 59]), ([9], [38, 35, 120, 57, 59]), ([10], [38, 35, 120, 65, 59]), ([13], [38, 35, 120, 68, 59])]
def backT : List (List Nat × List Nat) := [([60], [38, 108, 116, 59]), ([62], [38, 103, 116, 59]), ([34], [38, 113, 117, 111, 116, 59]), ([9], [38, 35, 48, 57, 59]), ([9], [38, 35, 120, 57, 59]), ([38], [38, 97, 109, 112, 59])]
def tabFL (t : List (List Nat × List Nat)) (c : Nat) : Nat := match t.find? (fun p => p.1 == [c]) with | some p => p.2.length | none => 1
def rowOkL (t : List (List Nat × List Nat)) (p : List Nat × List Nat) : Bool := (escL t p.1 == p.2) && Nat.ble p.2.length 200 && Nat.ble 1 p.2.length && Nat.ble p.1.length 200 && p.2.all (fun c => !(c == 34)) && (backL backT p.2 == p.1) && ((p.1.map (tabFL t)).sum == p.2.length)
theorem rows0 : rowsL0.all (rowOkL tabL0) = true := by decide +kernel
theorem rows1 : rowsL1.all (rowOkL tabL1) = true := by decide +kernel
theorem rows2 : rowsL2.all (rowOkL tabL2) = true := by decide +kernel
theorem cols0 : rowsL0.map (·.1) = linksL := by decide +kernel
theorem cols1 : rowsL1.map (·.1) = linksL := by decide +kernel
theorem cols2 : rowsL2.map (·.1) = linksL := by decide +kernel
theorem links_L : links.map (fun x => x.cps.toList) = linksL := by decide +kernel
theorem tab_L0 : toLs (tabK 0) = tabL0 := by decide +kernel
theorem tab_L1 : toLs (tabK 1) = tabL1 := by decide +kernel
theorem tab_L2 : toLs (tabK 2) = tabL2 := by decide +kernel
theorem back_T : toLs unescT = backT := by decide +kernel
theorem tabK_one : ∀ kind, kind < 3 → ∀ p ∈ tabK kind, 1 ≤ p.1.length := by decide +kernel
theorem unescT_one : ∀ p ∈ unescT, 1 ≤ p.2.length := by decide +kernel
theorem unesc_L : ∀ (t : List (Str × Str)) (x : Str), (∀ p ∈ t, 1 ≤ p.2.length) → (unesc t x).cps.toList = backL (toLs t) x.cps.toList
  | [], _, _ => rfl
  | p :: t, x, h => by
    have ih := unesc_L t (Txt.replace x p.2 p.1) fun q hq => h q (.tail _ hq)
    rw [replace_L (h p (.head _))] at ih
    exact ih
theorem find_L (c : Nat) : ∀ (t : List (Str × Str)), (toLs t).find? (fun p => p.1 == [c]) = (t.find? (fun p => decide (p.1 = ⟨#[c]⟩))).map fun p => (p.1.cps.toList, p.2.cps.toList)
  | [] => rfl
  | p :: t => by
    have ih := find_L c t
    unfold toLs at ih ⊢
    rw [List.map_cons, List.find?_cons, List.find?_cons]
    by_cases e : p.1 = ⟨#[c]⟩
    · have e2 : (p.1.cps.toList == [c]) = true := by rw [e]; simp
      rw [decide_eq_true e]
      simp only [e2]
      rfl
    · have e2 : (p.1.cps.toList == [c]) = false := by
        cases q : p.1.cps.toList == [c] with
        | false => rfl
        | true => exact absurd (strL (b := ⟨#[c]⟩) (eq_of_beq q)) e
      rw [decide_eq_false e]
      simp only [e2]
      exact ih
theorem tabF_L (kind c : Nat) : tabFL (toLs (tabK kind)) c = tabF kind c := by
  unfold tabFL tabF
  rw [find_L]
  cases (tabK kind).find? (fun p => decide (p.1 = ⟨#[c]⟩)) with
  | none => rfl
  | some p => exact lenL p.2
def Good (t : Tie) : Prop := t.1 < 5 ∧ t.2.1 < 5 ∧ t.2.2 < 3
theorem lk_mem0 : ∀ b, b < 5 → ∀ g, g < 5 → ∀ y, y < 3 → lk (b, g, y) ∈ links := by decide +kernel
theorem lk_mem {t : Tie} (h : Good t) : lk t ∈ links := lk_mem0 t.1 h.1 t.2.1 h.2.1 t.2.2 h.2.2
structure WOk (kind : Nat) (x : Str) : Prop where
  ge : 1 ≤ (wr kind x).length
  le : (wr kind x).length ≤ 200
  short : x.length ≤ 200
  free : 34 ∉ (wr kind x).cps.toList
  back : unesc unescT (wr kind x) = x
  sum : (x.cps.toList.map (tabF kind)).sum = (wr kind x).length
theorem of_row {kind : Nat} {x : Str} {p : List Nat × List Nat} (hk : kind < 3) (hx : x.cps.toList = p.1) (h : rowOkL (toLs (tabK kind)) p = true) : WOk kind x := by
  unfold rowOkL at h
  simp only [Bool.and_eq_true, List.all_eq_true, Bool.not_eq_true', beq_eq_false_iff_ne] at h
  obtain ⟨⟨⟨⟨⟨⟨h1, h2⟩, h3⟩, h4⟩, h5⟩, h6⟩, h7⟩ := h
  replace h1 := eq_of_beq h1
  replace h6 := eq_of_beq h6
  replace h7 := eq_of_beq h7
  have hw : (wr kind x).cps.toList = p.2 := by
    unfold wr
    rw [esc_L _ _ (tabK_one kind hk), hx, h1]
  have hl : (wr kind x).length = p.2.length := by rw [← lenL, hw]
  refine ⟨?_, ?_, ?_, ?_, ?_, ?_⟩
  · rw [hl]; exact Nat.le_of_ble_eq_true h3
  · rw [hl]; exact Nat.le_of_ble_eq_true h2
  · rw [← lenL, hx]; exact Nat.le_of_ble_eq_true h4
  · rw [hw]; exact fun q => h5 34 q rfl
  · refine strL ?_
    rw [unesc_L _ _ unescT_one, hw, back_T, h6, hx]
  · rw [hl, ← h7, hx]
    congr 1
    exact List.map_congr_left fun c _ => (tabF_L kind c).symm
theorem w_ok {kind : Nat} {t : Tie} (hk : kind < 3) (h : Good t) : WOk kind (lk t) := by
  have hm : (lk t).cps.toList ∈ linksL := by
    rw [← links_L]
    exact List.mem_map_of_mem (lk_mem h)
  match kind, hk with
  | 0, _ =>
    rw [← cols0] at hm
    obtain ⟨p, hp, e⟩ := List.mem_map.mp hm
    exact of_row (by decide) e.symm (by rw [tab_L0]; exact List.all_eq_true.mp rows0 p hp)
  | 1, _ =>
    rw [← cols1] at hm
    obtain ⟨p, hp, e⟩ := List.mem_map.mp hm
    exact of_row (by decide) e.symm (by rw [tab_L1]; exact List.all_eq_true.mp rows1 p hp)
  | 2, _ =>
    rw [← cols2] at hm
    obtain ⟨p, hp, e⟩ := List.mem_map.mp hm
    exact of_row (by decide) e.symm (by rw [tab_L2]; exact List.all_eq_true.mp rows2 p hp)
theorem tabK_le : ∀ kind, kind < 3 → ∀ p ∈ tabK kind, p.1.length ≤ p.2.length := by decide +kernel
theorem unescT_le : ∀ p ∈ unescT, p.1.length ≤ p.2.length := by decide +kernel
theorem lk_ok {kind : Nat} {t : Tie} (hk : kind < 3) (h : Good t) : LkOk kind (lk t) := by
  have z := w_ok hk h
  exact ⟨fun k _ => Nat.le_trans (esc_take _ _ k (tabK_le kind hk)) (Nat.le_trans z.le (by decide)), z.le, z.short⟩
theorem pl_ok : ∀ g, g < 5 → ((placeN g).map (·.length)).sum ≤ 100 ∧ (Txt.join (Str.ofString "/") (placeN g)).length ≤ 200 ∧ (placeN g).length ≤ 5 := by decide +kernel
theorem ties_good {ds : List Nat} (h : ∀ d ∈ ds, d < 75) : ∀ t ∈ tiesOf ds, Good t := by
  intro t ht
  unfold tiesOf at ht
  rcases List.mem_append.mp ht with ht | ht
  · simp only [List.mem_cons, List.not_mem_nil, or_false] at ht
    rcases ht with rfl | rfl | rfl <;> (unfold Good; decide)
  · obtain ⟨d, hd, rfl⟩ := List.mem_map.mp ht
    have := h d hd
    unfold Good tieOf
    dsimp only
    omega
end Mine
end

section
open PySem PySem.W PyProof.Rows PySem.Calls
set_option maxRecDepth 100000
set_option maxHeartbeats 1000000
namespace Mine
local macro_rules | `(tactic| tb_rel) => `(tactic| first | (goal_has PySem.W.Frag.In; (fail_if_success (with_reducible show wpAny _ _ (call (Value.ref _) _ _) _ _ _)); walk1) | (goal_lacks PySem.W.Frag.In; (with_reducible show wpAny _ _ _ _ _ _); (fail_if_success (with_reducible show wpAny _ _ (execs (PySem.Stmt.While _ _ _ _ :: _) _) _ _ _)); (fail_if_success (with_reducible show wpAny _ _ (execs (PySem.Stmt.For _ _ _ _ _ :: _) _) _ _ _)); (fail_if_success (with_reducible show wpAny _ _ (call (Value.ref _) _ _) _ _ _)); (fail_if_success (with_reducible show wpAny _ _ (pyIter _) _ _ _)); (fail_if_success (with_reducible show wpAny _ _ (call (Value.builtin "str.split") _ _) _ _ _)); (fail_if_success (with_reducible show wpAny _ _ (call (Value.ref _) _ _) _ _ _)); (fail_if_success (with_reducible show wpAny _ _ (exec (PySem.Stmt.Try _ _ _ _ _) _) _ _ _)); (fail_if_success (with_reducible show wpAny _ _ (subscriptTail _ _ (Value.ref _) _) _ _ _)); first | walk1 | (dsimp only; walk1)) | ((fail_if_success (with_reducible show wpAny _ _ _ _ _ _)); (with_reducible refine Mine.ite_t (by with_reducible first | rfl | exact True.intro) ?_)) | ((fail_if_success (with_reducible show wpAny _ _ _ _ _ _)); (with_reducible refine Mine.ite_f (by decide) ?_)) | fail "no step")
local macro_rules | `(tactic| tb_start) => `(tactic| first | (goal_has PySem.W.Frag.In; (fail_if_success (with_reducible show wpAny _ _ (call (Value.ref _) _ _) _ _ _)); walk1) | (goal_lacks PySem.W.Frag.In; (with_reducible show wpAny _ _ _ _ _ _); (fail_if_success (with_reducible show wpAny _ _ (execs (PySem.Stmt.While _ _ _ _ :: _) _) _ _ _)); (fail_if_success (with_reducible show wpAny _ _ (execs (PySem.Stmt.For _ _ _ _ _ :: _) _) _ _ _)); (fail_if_success (with_reducible show wpAny _ _ (execs (PySem.Stmt.If _ _ _ _ :: _) _) _ _ _)); (fail_if_success (with_reducible show wpAny _ _ (call (Value.ref _) _ _) _ _ _)); (fail_if_success (with_reducible show wpAny _ _ (pyIter _) _ _ _)); (fail_if_success (with_reducible show wpAny _ _ (call (Value.builtin "str.split") _ _) _ _ _)); (fail_if_success (with_reducible show wpAny _ _ (call (Value.ref _) _ _) _ _ _)); (fail_if_success (with_reducible show wpAny _ _ (exec (PySem.Stmt.Try _ _ _ _ _) _) _ _ _)); (fail_if_success (with_reducible show wpAny _ _ (subscriptTail _ _ (Value.ref _) _) _ _ _)); first | walk1 | (dsimp only; walk1)) | ((fail_if_success (with_reducible show wpAny _ _ _ _ _ _)); (with_reducible refine Mine.ite_t (by with_reducible first | rfl | exact True.intro) ?_)) | ((fail_if_success (with_reducible show wpAny _ _ _ _ _ _)); (with_reducible refine Mine.ite_f (by decide) ?_)) | fail "no step")
def pstep (kind n : Nat) (x : Str) (t : Tie) : Str := if t.1 = n then x ++ (((Str.ofString "<l h=\"") ++ wl kind t) ++ (Str.ofString "\"/>")) else x
def pageS (kind n : Nat) (ties : List Tie) : Str := ties.foldl (pstep kind n) (Str.ofString "")
def PageJ (D : Addr) (vp : List Value) (tp : List (Addr × Obj)) (lt : Addr) (n kind : Nat) (tn tkk : Tok) (ties : List Tie) (i : Nat) (m : Str → Option Value) (news : List (Addr × Obj)) : Prop :=
  ∃ u t, m = bd u [((Str.ofString "number"), .int n tn), ((Str.ofString "kind"), .int kind tkk), ((Str.ofString "places"), .ref D), ((Str.ofString "text"), .str (pageS kind n (ties.take i)) t)] ∧ news = (D, listOf (List.toArray vp) 0) :: tp
theorem page_len {kind n : Nat} (hk : kind < 3) : ∀ {ties : List Tie} {x : Str}, (∀ t ∈ ties, Good t) → (ties.foldl (pstep kind n) x).length ≤ x.length + 300 * ties.length
  | [], x, _ => by simp
  | t :: r, x, h => by
    have h1 := page_len hk (n := n) (x := pstep kind n x t) fun q hq => h q (.tail _ hq)
    have h2 : (pstep kind n x t).length ≤ x.length + 300 := by
      unfold pstep
      split
      · have h3 := (lk_ok hk (h t (.head _))).2.1
        have e : (wl kind t).length ≤ 200 := h3
        rw [Str.length_append, Str.length_append, Str.length_append]
        have a1 : (Str.length (Str.ofString "<l h=\"")) = 6 := by decide
        have a2 : (Str.length (Str.ofString "\"/>")) = 3 := by decide
        omega
      · omega
    simp only [List.foldl_cons, List.length_cons]
    omega
theorem All2.get' {α β : Type} {P : α → β → Prop} : ∀ {xs : List α} {ys : List β} {i : Nat} {y : β}, All2 P xs ys → ys[i]? = some y → ∃ x, xs[i]? = some x ∧ P x y
  | x :: _, _ :: _, 0, _, p, e => ⟨x, rfl, by cases e; exact p.1⟩
  | _ :: _, _ :: _, i + 1, _, p, e => p.2.get' (i := i) e
  | [], [], _, _, _, e => by simp at e
  | [], _ :: _, _, _, p, _ => p.elim
  | _ :: _, [], _, _, p, _ => p.elim
theorem place_at : ∀ k, k < 5 → places[k]? = some (placeN k)
  | 0, _ | 1, _ | 2, _ | 3, _ | 4, _ => rfl
  | n + 5, h => by omega
theorem page_c {w : World} {s : Shared} {h₀ : Heap} {mean : ExcName → Option Value} {mg mb : Str → Option Value} (X : (hd.heap_39 w.params).In h₀) (T : TT mean mg mb h₀) (st : h₀.StaysIn s.heap) {lt : Addr} {items : Array Value} {ties : List Tie} {n kind : Nat} {tn tkk : Tok} {R : Result → Shared → Prop} (hl : s.heap.IsList lt items) (hi : All2 (TieAt s.heap) items.toList ties) (hk : kind < 3) (hn5 : n < 5)
  (hg : ∀ t ∈ ties, Good t) (hlen : ties.length ≤ 13)
  (ret : ∀ h' tk' t, Ext s.heap h' → R (.ok (.ret (.str (pageS kind n ties) t))) { s with heap := h', toks := tk' }) :
  codeAny (MM w) (A0 460) (.call (.ref 234) ⟨[.int n tn, .ref lt, .int kind tkk], []⟩) R s := by
  obtain ⟨ol, hol, hol1, hol2⟩ := hl
  refine' enter (binds := [((Str.ofString "number"), .int n tn), ((Str.ofString "ties"), .ref lt), ((Str.ofString "kind"), .int kind tkk)]) [] X T st ?a1 ?a2 ?a3 ?a4 ?a5 ?a6 ?a7 ?a8 ?a9 ?a10 ?a11
  case a2 => k_is
  case a3 => k_is
  case a1 => intro q hq; cases hq
  case a4 => decide
  case a5 => exact BindsTo.of_eq rfl
  case a6 => exact locs rfl
  case a8 => exact rfl
  case a9 => exact rfl
  case a10 => exact rfl
  case a11 => decide
  intro g L h₁ Xg Tg hg1 hg2 hlt F N
  have hlg : g.IsList lt items := ⟨_, hg1 _ _ hol (by simp), hol1, hol2⟩
  have hig : All2 (TieAt g) items.toList ties := hi.imp fun _ _ q => q.keeps fun b o e => hg1 b o e (by simp)
  repeat' tb_rel
  rename Fr _ _ _ _ => F1
  rename News _ _ _ _ => N1
  refine call_up (n := 480) rfl (Nat.le_of_ble_eq_true rfl) (Nat.le_of_ble_eq_true rfl) ?_
  refine places_c Xg Tg (by exact F1.keep) fun h2 tk2 D vp tp e2 a2 t2 p2 => ?_
  obtain ⟨F2, N2⟩ := behindL F1 N1 e2 a2
  dsimp only [RV]
  repeat' tb_rel
  rename Fr _ _ _ _ => F3
  rename News _ _ _ _ => N3
  dsimp only
  refine cut_ (fun s' => ∃ u h' tk' t, s' = { s with heap := h', toks := tk' } ∧ Fr g L h' (bd u [((Str.ofString "text"), .str (pageS kind n ties) t)])) ?_ ?_
  · refine wpAny_For ?_
    repeat' tb_rel
    rename Fr _ _ _ _ => F4
    rename News _ _ _ _ => N4
    refine iter_list (items := items) (PageJ D vp tp lt n kind tn tkk ties) rfl F4 N4 (fun i m news h _ F _ => let ⟨o, a, b⟩ := hlg; ⟨o, F.keep _ _ a, b⟩) ⟨_, _, (bd_eq (bdOk_all (by exact ⟨rfl, rfl, rfl, rfl, trivial⟩))).symm, by simp⟩ ?_ ?_
    · rintro i v m news h tk9 I io hI hv ⟨u, tt, rfl, rfl⟩ F5 N5 hn
      obtain ⟨t, ht, av, tb, tg, ty, rfl, hav⟩ := hig.get (by simpa using hv)
      obtain ⟨b1, g1, y1⟩ := t
      dsimp only at hav
      have hav5 := F5.keep _ _ hav
      have hgd : Good (b1, g1, y1) := hg _ (List.mem_of_getElem? ht)
      obtain ⟨gb, gg, gy⟩ := hgd
      dsimp only at gb gg gy
      repeat' tb_rel
      refine unpackN_ F5 N5 (show IsTup _ av #[.int b1 tb, .int g1 tg, .int y1 ty] from ⟨_, hav5, rfl, _, rfl⟩) rfl rfl rfl (fun h6 F6 N6 => ?_)
      (try clear F5 N5)
      repeat' tb_rel
      rename Fr _ _ _ _ => F7
      rename News _ _ _ _ => N7
      obtain ⟨lk1, lk2, lk3⟩ := lk_ok hk (t := (b1, g1, y1)) ⟨gb, gg, gy⟩
      have hwr : Hid (WrOk kind (lk (b1, g1, y1))) := ⟨lk1⟩
      clear lk1
      have lk2' : (wr kind (linkS (placeN b1).length (placeN g1) y1)).length ≤ 200 := lk2
      clear lk2 lk3
      obtain ⟨pg1, pg2, pg3⟩ := pl_ok g1 gg
      obtain ⟨pb1, pb2, pb3⟩ := pl_ok b1 gb
      have hpg : Hid (((placeN g1).map (·.length)).sum ≤ 100 ∧ (Txt.join (Str.ofString "/") (placeN g1)).length ≤ 200) := ⟨pg1, pg2⟩
      clear pg1 pg2 pb1 pb2
      have hpl : (pageS kind n (ties.take i)).length ≤ 10000 := by
        have h1 := page_len hk (n := n) (x := (Str.ofString "")) (ties := ties.take i) fun q hq => hg q (List.mem_of_mem_take hq)
        have h2 : (ties.take i).length ≤ 13 := Nat.le_trans (List.length_take_le' ..) hlen
        have h3 : (Str.length (Str.ofString "")) = 0 := by decide
        unfold pageS
        omega
      have hvp : vp.length = 5 := p2.length
      have hb1 : ∃ x, vp[b1]? = some x ∧ StrTupIn tp x (placeN b1) := p2.get' (place_at _ gb)
      have hg1x : ∃ x, vp[g1]? = some x ∧ StrTupIn tp x (placeN g1) := p2.get' (place_at _ gg)
      obtain ⟨xb, hxb, qb⟩ := hb1
      obtain ⟨xg, hxg, qg⟩ := hg1x
      refine ite_b (fun c => ?_) (fun c => ?_)
      · repeat' tb_rel
        rename Fr _ _ _ _ => F8
        rename News _ _ _ _ => N8
        refine item_at (list_of N8 (.tail _ (.head _))) (by omega) (by omega) (v := xb) (by simpa using hxb) ?_
        repeat' tb_rel
        rename Fr _ _ _ _ => F9
        rename News _ _ _ _ => N9
        refine item_at (list_of N9 (.tail _ (.head _))) (by omega) (by omega) (v := xg) (by simpa using hxg) ?_
        repeat' tb_rel
        rename Fr _ _ _ _ => F10
        rename News _ _ _ _ => N10
        refine call_up (n := 480) rfl (Nat.le_of_ble_eq_true rfl) (Nat.le_of_ble_eq_true rfl) ?_
        refine link_c Xg Tg (by exact F10.keep) (qb.at fun p hp => (N10 p (.tail _ (.tail _ hp))).1) (qg.at fun p hp => (N10 p (.tail _ (.tail _ hp))).1) gy pb3 pg3 hpg fun h11 tk11 t11 e11 => ?_
        obtain ⟨F11, N11⟩ := behind0 F10 N10 e11
        dsimp only [RV]
        repeat' tb_rel
        rename Fr _ _ _ _ => F12
        rename News _ _ _ _ => N12
        refine call_up (n := 480) rfl (Nat.le_of_ble_eq_true rfl) (Nat.le_of_ble_eq_true rfl) ?_
        refine written_c Xg Tg (by exact F12.keep) hk hwr fun h13 tk13 t13 e13 => ?_
        obtain ⟨F13, N13⟩ := behind0 F12 N12 e13
        dsimp only [RV]
        have hps : pageS kind n (ties.take (i + 1)) = pageS kind n (ties.take i) ++ (((Str.ofString "<l h=\"") ++ wr kind (linkS (placeN b1).length (placeN g1) y1)) ++ (Str.ofString "\"/>")) := by
          have hbn : b1 = n := by have := eq_of_beq c; omega
          unfold pageS
          rw [List.take_add_one, ht, List.foldl_append]
          show pstep kind n _ _ = _
          unfold pstep
          rw [if_pos hbn]
          rfl
        repeat' tb_rel
        rename Fr _ _ _ _ => F14
        rename News _ _ _ _ => N14
        dsimp only
        refine ⟨_, _, _, _, rfl, fr_bd F14 [((Str.ofString "number"), .int n tn), ((Str.ofString "kind"), .int kind tkk), ((Str.ofString "places"), .ref D), ((Str.ofString "text"), .str (pageS kind n (ties.take (i + 1))) _)] ⟨rfl, rfl, rfl, (by rw [hps]; rfl), trivial⟩, N14, hn, ⟨_, _, rfl, rfl⟩⟩
      · have hps : pageS kind n (ties.take (i + 1)) = pageS kind n (ties.take i) := by
          have hbn : ¬ b1 = n := by rintro rfl; simp at c
          unfold pageS
          rw [List.take_add_one, ht, List.foldl_append]
          show pstep kind n _ _ = _
          unfold pstep
          rw [if_neg hbn]
        repeat' tb_rel
        rename Fr _ _ _ _ => F8
        rename News _ _ _ _ => N8
        dsimp only
        refine ⟨_, _, _, _, rfl, fr_bd F8 [((Str.ofString "number"), .int n tn), ((Str.ofString "kind"), .int kind tkk), ((Str.ofString "places"), .ref D), ((Str.ofString "text"), .str (pageS kind n (ties.take (i + 1))) tt)] ⟨rfl, rfl, rfl, (by rw [hps]; rfl), trivial⟩, N8, hn, ⟨_, _, rfl, rfl⟩⟩
    · rintro m news h tk9 ⟨u, tt, rfl, rfl⟩ F5 N5
      have e : items.size = ties.length := hi.length
      refine ⟨rfl, _, h, tk9, tt, rfl, fr_bd F5 _ ⟨?_, trivial⟩⟩
      rw [e, List.take_length]
      rfl
  · rintro s' ⟨u, h2, tk2, t, rfl, F3⟩
    repeat' tb_rel
    rename Fr _ _ _ _ => F4
    dsimp only
    exact ret _ _ _ (fun b x hx => F4.keep _ _ (hg1 b x hx (by simp)))
end Mine
end

section
open PySem PySem.W PyProof.Rows PySem.Calls
set_option maxRecDepth 100000
set_option maxHeartbeats 1000000
namespace Mine
local macro_rules | `(tactic| tb_rel) => `(tactic| first | (goal_has PySem.W.Frag.In; (fail_if_success (with_reducible show wpAny _ _ (call (Value.ref _) _ _) _ _ _)); walk1) | (goal_lacks PySem.W.Frag.In; (with_reducible show wpAny _ _ _ _ _ _); (fail_if_success (with_reducible show wpAny _ _ (execs (PySem.Stmt.While _ _ _ _ :: _) _) _ _ _)); (fail_if_success (with_reducible show wpAny _ _ (execs (PySem.Stmt.For _ _ _ _ _ :: _) _) _ _ _)); (fail_if_success (with_reducible show wpAny _ _ (call (Value.ref _) _ _) _ _ _)); (fail_if_success (with_reducible show wpAny _ _ (pyIter _) _ _ _)); (fail_if_success (with_reducible show wpAny _ _ (call (Value.builtin "str.split") _ _) _ _ _)); (fail_if_success (with_reducible show wpAny _ _ (call (Value.ref _) _ _) _ _ _)); (fail_if_success (with_reducible show wpAny _ _ (exec (PySem.Stmt.Try _ _ _ _ _) _) _ _ _)); (fail_if_success (with_reducible show wpAny _ _ (subscriptTail _ _ (Value.ref _) _) _ _ _)); (fail_if_success (with_reducible show wpAny _ _ (call (Value.builtin "str.replace") _ _) _ _ _)); first | walk1 | (dsimp only; walk1)) | ((fail_if_success (with_reducible show wpAny _ _ _ _ _ _)); (with_reducible refine Mine.ite_t (by with_reducible first | rfl | exact True.intro) ?_)) | ((fail_if_success (with_reducible show wpAny _ _ _ _ _ _)); (with_reducible refine Mine.ite_f (by decide) ?_)) | fail "no step")
local macro_rules | `(tactic| tb_start) => `(tactic| first | (goal_has PySem.W.Frag.In; (fail_if_success (with_reducible show wpAny _ _ (call (Value.ref _) _ _) _ _ _)); walk1) | (goal_lacks PySem.W.Frag.In; (with_reducible show wpAny _ _ _ _ _ _); (fail_if_success (with_reducible show wpAny _ _ (execs (PySem.Stmt.While _ _ _ _ :: _) _) _ _ _)); (fail_if_success (with_reducible show wpAny _ _ (execs (PySem.Stmt.For _ _ _ _ _ :: _) _) _ _ _)); (fail_if_success (with_reducible show wpAny _ _ (execs (PySem.Stmt.If _ _ _ _ :: _) _) _ _ _)); (fail_if_success (with_reducible show wpAny _ _ (call (Value.ref _) _ _) _ _ _)); (fail_if_success (with_reducible show wpAny _ _ (pyIter _) _ _ _)); (fail_if_success (with_reducible show wpAny _ _ (call (Value.builtin "str.split") _ _) _ _ _)); (fail_if_success (with_reducible show wpAny _ _ (call (Value.ref _) _ _) _ _ _)); (fail_if_success (with_reducible show wpAny _ _ (exec (PySem.Stmt.Try _ _ _ _ _) _) _ _ _)); (fail_if_success (with_reducible show wpAny _ _ (subscriptTail _ _ (Value.ref _) _) _ _ _)); (fail_if_success (with_reducible show wpAny _ _ (call (Value.builtin "str.replace") _ _) _ _ _)); first | walk1 | (dsimp only; walk1)) | ((fail_if_success (with_reducible show wpAny _ _ _ _ _ _)); (with_reducible refine Mine.ite_t (by with_reducible first | rfl | exact True.intro) ?_)) | ((fail_if_success (with_reducible show wpAny _ _ _ _ _ _)); (with_reducible refine Mine.ite_f (by decide) ?_)) | fail "no step")
def odds {α : Type} : List α → List α
  | [] => []
  | [_] => []
  | _ :: b :: r => b :: odds r
def valuesS (x : Str) : List (Int × Str) := (odds (Txt.split x (Str.ofString "\""))).map fun p => ((p.length : Int), unesc unescT p)
def PairIn (ts : List (Addr × Obj)) (v : Value) (x : Int × Str) : Prop := ∃ a t u, v = .ref a ∧ (a, ({ cls := .type "tuple", data := .seq #[.int x.1 t, .str x.2 u] } : Obj)) ∈ ts
theorem PairIn.at {ts : List (Addr × Obj)} {h : Heap} {v : Value} {x : Int × Str} (p : PairIn ts v x) (k : ∀ p ∈ ts, h.get? p.1 = some p.2) : PairAt h v x :=
  let ⟨a, t, u, e, q⟩ := p; ⟨a, t, u, e, k _ q⟩
theorem PairIn.mono {ts ts' : List (Addr × Obj)} {v : Value} {x : Int × Str} (p : PairIn ts v x) (k : ∀ p ∈ ts, p ∈ ts') : PairIn ts' v x :=
  let ⟨a, t, u, e, q⟩ := p; ⟨a, t, u, e, k _ q⟩
def PieceOk (p : Str) : Prop := p.length ≤ 1000 ∧ ∀ k, k ≤ 6 → (unesc (unescT.take k) p).length ≤ 1000
def ValJ (D lp : Addr) (ps : List Value) (qs : List Str) (i : Nat) (m : Str → Option Value) (news : List (Addr × Obj)) : Prop :=
  ∃ u vs n ts, m = bd u [((Str.ofString "values"), .ref D)] ∧ news = (D, listOf vs n) :: (lp, listOf (List.toArray ps) 0) :: ts ∧ Tups ts ∧ All2 (PairIn ts) vs.toList ((qs.take i).map fun p => ((p.length : Int), unesc unescT p))
theorem news_bcda {g h : Heap} {L : Addr} {a b c d : Addr × Obj} {r : List (Addr × Obj)} (N : News g L h (a :: b :: c :: d :: r)) : News g L h (b :: c :: d :: a :: r) := news_sub N fun p hp => (List.perm_middle (l₁ := [b, c, d]) (a := a) (l₂ := r)).subset hp
theorem odds_len {α : Type} : ∀ (l : List α), (odds l).length ≤ l.length
  | [] => Nat.le_refl _
  | [_] => by simp [odds]
  | _ :: _ :: r => by have := odds_len r; simp [odds]; omega
theorem odds_range {α : Type} : ∀ (vs : List α) (c : Nat), vs.length / 2 ≤ c → (List.range c).filterMap (fun k => vs[1 + 2 * k]?) = odds vs
  | [], c, _ => by simp [odds]
  | [a], c, _ => by
    have e : (fun k : Nat => [a][1 + 2 * k]?) = fun _ => none := by funext k; rw [Nat.add_comm]; simp
    rw [e]; simp [odds]
  | a :: b :: r, c, h => by
    obtain ⟨c', rfl⟩ : ∃ c', c = c' + 1 := ⟨c - 1, by simp at h; omega⟩
    have ih := odds_range r c' (by simp at h; omega)
    rw [List.range_succ_eq_map, List.filterMap_cons, List.filterMap_map]
    have e : ((fun k : Nat => (a :: b :: r)[1 + 2 * k]?) ∘ Nat.succ) = fun k => r[1 + 2 * k]? := by
      funext k
      show (a :: b :: r)[1 + 2 * (k + 1)]? = _
      rw [show 1 + 2 * (k + 1) = (1 + 2 * k) + 1 + 1 by omega]
      simp
    rw [e, ih]
    rfl
theorem pick_odds (vs : List Value) : slicePick vs.toArray (some 1) none (some 2) = (odds vs).toArray := by
  unfold slicePick sliceRange sliceBounds
  congr 1
  by_cases hn : vs.length = 0
  · obtain rfl := List.length_eq_zero_iff.mp hn
    rfl
  · rw [← odds_range vs (vs.length / 2) (Nat.le_refl _)]
    simp only [Option.getD_some, List.size_toArray, show (2 : Int) > 0 by decide, if_true, show ¬ ((1 : Int) < 0) by decide, if_false]
    have e1 : max (0 : Int) (min 1 (vs.length : Int)) = 1 := by omega
    rw [e1]
    have e2 : (if (1 : Int) < (vs.length : Int) then ((vs.length : Int) - 1 + 2 - 1) / 2 else 0).toNat = vs.length / 2 := by
      split <;> omega
    rw [e2, List.filterMap_map]
    congr 1
    funext k
    show vs.toArray[((1 : Int) + 2 * (k : Int)).toNat]? = _
    rw [show ((1 : Int) + 2 * (k : Int)).toNat = 1 + 2 * k by omega]
    simp
theorem strs_odds : ∀ {vs : List Value} {xs : List Str}, StrsAre vs xs → StrsAre (odds vs) (odds xs)
  | _, _, .nil => .nil
  | _, _, .cons _ _ .nil => .nil
  | _, _, .cons _ _ (.cons y t r) => .cons y t (strs_odds r)
theorem iter_keep {prog : Program} {w : World} {A : Around} {s : Shared} {env : Env} {Q : Flow → Shared → Prop} {g : Heap} {target : PySem.Expr} {body : List Stmt} {l : Addr} {items : Array Value} {n : Nat} {m₀ : Str → Option Value} {news₀ : List (Addr × Obj)} (J : Nat → (Str → Option Value) → Prop)
    (hh : A.handled = none) (F : Fr g env.locals s.heap m₀) (N : News g env.locals s.heap news₀) (hm : (l, listOf items n) ∈ news₀) (hJ : J 0 m₀)
    (turn : ∀ i v m h tk I io, (∀ p ∈ news₀, p.1 < I) → items[i]? = some v → J i m → Fr g env.locals h m → News g env.locals h ((I, io) :: news₀) → 
      wpAny (model prog w) A (assign target env v) (fun _ s₂ => wpAny (model prog w) A (execs body env) (fun f s₃ => match f with
        | .next | .cont => ∃ h tk m, s₃ = { s with heap := h, toks := tk } ∧ Fr g env.locals h m ∧ News g env.locals h ((I, io) :: news₀) ∧ J (i + 1) m
        | .brk => Q .next s₃
        | .ret v => Q (.ret v) s₃) F0 s₂) F0 { s with heap := h, toks := tk })
    (done : ∀ m h tk, J items.size m → Fr g env.locals h m → News g env.locals h news₀ → Q .next { s with heap := h, toks := tk }) :
    wpAny (model prog w) A (pyIter (.ref l)) (fun it s₂ => codeAny (model prog w) A (.forLoop target it body [] env) (LoopQ Q (model prog w) A env) s₂) F0 s := by
  refine iter_list (items := items) (fun i m news => J i m ∧ news = news₀) hh F N (fun i m news h z _ N' => by rw [z.2] at N'; exact list_of N' hm) ⟨hJ, rfl⟩ ?_ (fun m news h tk z F' N' => by rw [z.2] at N'; exact done m h tk z.1 F' N')
  rintro i v m news h tk I io hI hv ⟨hj, rfl⟩ F N hn
  refine wpAny_mono (turn i v m h tk I io hI hv hj F N) (fun _ s₂ h₂ => wpAny_mono h₂ (fun f s₃ h₃ => ?_) fun _ _ x => x.elim) fun _ _ x => x.elim
  cases f with
  | next => obtain ⟨h', tk', m', rfl, F', N', j'⟩ := h₃; exact ⟨h', tk', m', _, rfl, F', N', hn, j', rfl⟩
  | cont => obtain ⟨h', tk', m', rfl, F', N', j'⟩ := h₃; exact ⟨h', tk', m', _, rfl, F', N', hn, j', rfl⟩
  | brk => exact h₃
  | ret v => exact h₃
def StrPairIn (news : List (Addr × Obj)) (v : Value) (p : Str × Str) : Prop := ∃ a t1 t2, v = .ref a ∧ (a, ({ cls := .type "tuple", data := .seq #[.str p.1 t1, .str p.2 t2] } : Obj)) ∈ news ∧ t1 ≠ 0 ∧ t2 ≠ 0 ∧ t2 ≠ t1
theorem iter_pairs {prog : Program} {w : World} {A : Around} {s : Shared} {env : Env} {Q : Flow → Shared → Prop} {g : Heap} {target : PySem.Expr} {body : List Stmt} {l : Addr} {items : Array Value} {n : Nat} {m₀ : Str → Option Value} {news₀ : List (Addr × Obj)} {pairs : List (Str × Str)} {L : Addr} (hL : env.locals = L) (J : Nat → (Str → Option Value) → Prop)
    (hh : A.handled = none) (F : Fr g L s.heap m₀) (N : News g L s.heap news₀) (hm : (l, listOf items n) ∈ news₀) (hA : All2 (StrPairIn news₀) items.toList pairs) (hJ : J 0 m₀)
    (turn : ∀ i v p m h tk I io, (∀ p ∈ news₀, p.1 < I) → pairs[i]? = some p → StrPairIn news₀ v p → J i m → Fr g L h m → News g L h ((I, io) :: news₀) → 
      wpAny (model prog w) A (assign target env v) (fun _ s₂ => wpAny (model prog w) A (execs body env) (fun f s₃ => match f with
        | .next | .cont => ∃ h tk m, s₃ = { s with heap := h, toks := tk } ∧ Fr g L h m ∧ News g L h ((I, io) :: news₀) ∧ J (i + 1) m
        | .brk => Q .next s₃
        | .ret v => Q (.ret v) s₃) F0 s₂) F0 { s with heap := h, toks := tk })
    (done : ∀ m h tk, J pairs.length m → Fr g L h m → News g L h news₀ → Q .next { s with heap := h, toks := tk }) :
    wpAny (model prog w) A (pyIter (.ref l)) (fun it s₂ => codeAny (model prog w) A (.forLoop target it body [] env) (LoopQ Q (model prog w) A env) s₂) F0 s := by
  subst hL
  exact iter_keep J hh F N hm hJ (fun i v m h tk I io hI hv hj F' N' => by
    obtain ⟨p, hp, hq⟩ := hA.get (by simpa using hv)
    exact turn i v p m h tk I io hI hp hq hj F' N') (fun m h tk hj F' N' => done m h tk (by have e : items.size = pairs.length := hA.length; rw [e] at hj; exact hj) F' N')
theorem foldedL {elts : List PySem.Expr} {pos : Pos} {env : Env} (x : Value) : foldedSetIterable (.List elts pos) env x = pure x := rfl
theorem unesc_ok : ∀ p ∈ unescT, (p.2 == p.1) = false ∧ p.1.length ≤ 14 := by decide +kernel
theorem values_c {w : World} {s : Shared} {h₀ : Heap} {mean : ExcName → Option Value} {mg mb : Str → Option Value} (X : (hd.heap_39 w.params).In h₀) (T : TT mean mg mb h₀) (st : h₀.StaysIn s.heap) {x : Str} {tx : Tok} {R : Result → Shared → Prop} (hx : x.length ≤ 10000) (hps : Hid (∀ p ∈ odds (Txt.split x (Str.ofString "\"")), PieceOk p)) (hpn : Hid ((Txt.split x (Str.ofString "\"")).length ≤ 200))
  (ret : ∀ h' tk' D vs n ts, Ext s.heap h' → Adds s.heap h' ((D, listOf vs n) :: ts) → Tups ts → All2 (PairIn ts) vs.toList (valuesS x) → R (.ok (.ret (.ref D))) { s with heap := h', toks := tk' }) :
  codeAny (MM w) (A0 460) (.call (.ref 241) ⟨[.str x tx], []⟩) R s := by
  refine' enter (binds := [((Str.ofString "text"), .str x tx)]) [] X T st ?a1 ?a2 ?a3 ?a4 ?a5 ?a6 ?a7 ?a8 ?a9 ?a10 ?a11
  case a2 => k_is
  case a3 => k_is
  case a1 => intro q hq; cases hq
  case a4 => decide
  case a5 => exact BindsTo.of_eq rfl
  case a6 => exact locs rfl
  case a8 => exact rfl
  case a9 => exact rfl
  case a10 => exact rfl
  case a11 => decide
  intro g L h₁ Xg Tg hg1 hg2 hlt F N
  repeat' tb_rel
  rename Fr _ _ _ _ => F1
  rename News _ _ _ _ => N1
  rename Addr => D
  dsimp only
  refine cut_ (fun s' => ∃ u h' tk' vs n ts, s' = { s with heap := h', toks := tk' } ∧ Fr g L h' (bd u [((Str.ofString "values"), .ref D)]) ∧ News g L h' ((D, listOf vs n) :: ts) ∧ Tups ts ∧ All2 (PairIn ts) vs.toList (valuesS x)) ?_ ?_
  · refine wpAny_For ?_
    repeat' tb_rel
    rename Fr _ _ _ _ => F2
    rename News _ _ _ _ => N2
    refine split_at F2 N2 rfl (Nat.le_trans hx (by decide)) fun lc vs h8 k8 hS l8 F8 N8 => ?_
    (try clear F2 N2)
    repeat' tb_rel
    rename Fr _ _ _ _ => F3
    rename News _ _ _ _ => N3
    have hvl : vs.length ≤ 200 := by rw [hS.length]; exact hpn.out
    refine kba_turn (value' := PySem.Expr.Name (Str.ofString "_") ⟨0, 0, 0, 0⟩) (fun _ => rfl) ?_
    refine' kmk_slice3_lit (zs := odds vs) (its := vs.toArray) ?zF ?zN ?zl ?zp ?zq ?zk ?zo ?ze ?_ ?zs ?zt ?zz
    case zF => exact F3
    case zN => exact N3
    case zl => exact list_of N3 (.head _)
    case zp => exact IsPart.int _ _
    case zq => exact IsPart.none
    case zk => exact IsPart.int _ _
    case zo => decide
    case ze => rw [pick_odds]
    case zs => with_unfolding_all rfl
    case zt => exact fun _ => rfl
    case zz => rw [List.size_toArray, sizeLine_eq]; omega
    intro lp h4 F4 N4 l4
    (try clear F3 N3)
    dsimp only
    have hS' := strs_odds hS
    have hql0 : (odds (Txt.split x (Str.ofString "\""))).length ≤ 200 := Nat.le_trans (odds_len _) (Nat.le_trans (Nat.le_of_eq hS.length.symm) hvl)
    have eq0 : valuesS x = (odds (Txt.split x (Str.ofString "\""))).map fun p => ((p.length : Int), unesc unescT p) := rfl
    rw [eq0]
    generalize odds (Txt.split x (Str.ofString "\"")) = qs at *
    generalize odds vs = ps at *
    clear eq0
    refine iter_list (items := ps.toArray) (ValJ D lp ps qs) rfl F4 (fun q hq => N4 q (by
          rcases List.mem_cons.mp hq with rfl | hq
          · exact .tail _ (.tail _ (.head _))
          · rcases List.mem_cons.mp hq with rfl | hq
            · exact .head _
            · cases hq)) (fun i m news h ⟨_, _, _, _, _, e, _⟩ _ N => by subst e; exact list_of N (.tail _ (.head _)))
        ⟨_, #[], 0, [], (bd_eq (bdOk_all (by exact ⟨rfl, trivial⟩))).symm, rfl, (fun _ h => nomatch h), trivial⟩ ?_ ?_
    · rintro i v m news h tk9 I io hI hv ⟨u, vs9, n, ts, rfl, rfl, hT, hA⟩ F5 N5 hn
      obtain ⟨c, tc, rfl, hc⟩ := hS'.item i v (by simpa using hv)
      have hpk : Hid (PieceOk c) := ⟨hps.out c (List.mem_of_getElem? hc)⟩
      have hql : qs.length ≤ 200 := hql0
      have hlv : vs9.size ≤ 200 := by
        have h1 := hA.length
        simp at h1
        omega
      have hI1 := neN <| hn (D, listOf vs9 n) (.head _)
      have hI2 := neN <| hn (lp, listOf (List.toArray ps) 0) (.tail _ (.head _))
      clear hps
      repeat' tb_rel
      rename Fr _ _ _ _ => F6
      rename News _ _ _ _ => N6
      dsimp only
      replace hA := Hid.mk hA
      with_reducible refine cut_ (fun s' => ∃ u h' tk' t, s' = { s with heap := h', toks := tk' } ∧ Fr g L h' (bd u [((Str.ofString "values"), .ref D), ((Str.ofString "piece"), .str c tc), ((Str.ofString "value"), .str (unesc unescT c) t)]) ∧ News g L h' ((I, io) :: (D, listOf vs9 n) :: (lp, listOf (List.toArray ps) 0) :: ts)) ?_ ?_
      · with_reducible refine wpAny_For ?_ (fun _ => foldedL _)
        repeat' tb_rel
        rename Fr _ _ _ _ => F7
        rename News _ _ _ _ => N7
        refine' iter_pairs (pairs := unescT) ?zL (fun k m => ∃ u t, m = bd u [((Str.ofString "values"), .ref D), ((Str.ofString "piece"), .str c tc), ((Str.ofString "value"), .str (unesc (unescT.take k) c) t)]) ?zH ?zF ?zN ?zM ?zA ?zJ ?zT ?zD
        case zL => rfl
        case zH => rfl
        case zF => exact F7
        case zN => exact N7
        case zM => exact .head _
        case zA => exact ⟨⟨_, _, _, rfl, .tail _ (.tail _ (.tail _ (.tail _ (.tail _ (.tail _ (.head _)))))), by k_ne, by k_ne, by k_ne⟩, ⟨_, _, _, rfl, .tail _ (.tail _ (.tail _ (.tail _ (.tail _ (.head _))))), by k_ne, by k_ne, by k_ne⟩, ⟨_, _, _, rfl, .tail _ (.tail _ (.tail _ (.tail _ (.head _)))), by k_ne, by k_ne, by k_ne⟩,
            ⟨_, _, _, rfl, .tail _ (.tail _ (.tail _ (.head _))), by k_ne, by k_ne, by k_ne⟩, ⟨_, _, _, rfl, .tail _ (.tail _ (.head _)), by k_ne, by k_ne, by k_ne⟩, ⟨_, _, _, rfl, .tail _ (.head _), by k_ne, by k_ne, by k_ne⟩, trivial⟩
        case zJ => exact ⟨_, _, (bd_eq (bdOk_all (by exact ⟨rfl, rfl, rfl, trivial⟩))).symm⟩
        case zT =>
          rintro k v ⟨sg, rf⟩ m h3 tk3 I2 io2 hI2 hk ⟨a9, t1, t2, rfl, ha9, n1, n2, n3⟩ ⟨u2, t4, rfl⟩ F8 N8
          have hst : unesc (unescT.take (k + 1)) c = Txt.replace (unesc (unescT.take k) c) rf sg := by
            unfold unesc
            rw [List.take_add_one, hk, List.foldl_append]
            rfl
          have hu := unesc_ok _ (List.mem_of_getElem? hk)
          have hk6 : k < 6 := (List.getElem?_eq_some_iff.mp hk).1
          have hlu : (unesc (unescT.take k) c).length ≤ 1000 := hpk.out.2 k (by omega)
          have hst' := Hid.mk hst
          have hu' := Hid.mk hu
          clear hst hu
          generalize unesc (unescT.take k) c = xk at *
          repeat' tb_rel
          refine unpackN_ F8 N8 (show IsTup _ a9 #[.str sg t1, .str rf t2] from ⟨_, (N8 _ (.tail _ ha9)).1, rfl, _, rfl⟩) rfl rfl rfl (fun h6 F9 N9 => ?_)
          (try clear F8 N8)
          repeat' tb_rel
          rename Fr _ _ _ _ => F10
          rename News _ _ _ _ => N10
          refine SC.replaceW n2 n1 n3 hu'.out.1 (by omega) hu'.out.2 fun t7 k7 => ?_
          repeat' tb_rel
          rename Fr _ _ _ _ => F11
          rename News _ _ _ _ => N11
          dsimp only
          exact ⟨_, _, _, rfl, fr_bd F11 [((Str.ofString "values"), .ref D), ((Str.ofString "piece"), .str c tc), ((Str.ofString "value"), .str (unesc (unescT.take (k + 1)) c) t7)] ⟨rfl, rfl, (by rw [hst'.out]; rfl), trivial⟩, N11, ⟨_, _, rfl⟩⟩
        case zD =>
          rintro m h3 tk3 ⟨u2, t4, rfl⟩ F8 N8
          exact ⟨rfl, _, _, _, t4, rfl, F8, news_sub N8 fun p hp => .tail _ (.tail _ (.tail _ (.tail _ (.tail _ (.tail _ (.tail _ hp))))))⟩
      · rintro s' ⟨u2, h2, tk2, t4, rfl, F7, N7⟩
        have hcl : c.length ≤ 1000 := hpk.out.1
        have hvl1 : (unesc unescT c).length ≤ 1000 := hpk.out.2 6 (by decide)
        generalize hux : unesc unescT c = ux at *
        repeat' tb_rel
        rename Fr _ _ _ _ => F8
        rename News _ _ _ _ => N8
        rename Addr => T1
        rename _ ∧ _ => l1
        refine append_K (D := D) F8 N8 (.tail (Nat.ne_of_gt l1.2.1) (.tail (hn _ (.head _)).symm (.head ?_))) (fun h5 F9 N9 => ?_) (by rw [sizeLine_eq]; omega)
        · intro p hp
          rcases List.mem_cons.mp hp with rfl | hp
          · exact Nat.ne_of_gt (l4 (D, _) (.tail _ (.head _)))
          · exact tup_ne N8 (.tail _ (.tail _ (.tail _ (.tail _ hp)))) (.tail _ (.tail _ (.head _))) (hT p hp)
        repeat' tb_rel
        rename Fr _ _ _ _ => F10
        rename News _ _ _ _ => N10
        dsimp only
        refine ⟨_, _, _, _ :: _ :: _ :: ts, rfl, fr_bd F10 [((Str.ofString "values"), .ref D)] ⟨rfl, trivial⟩, news_bcda N10, ?_, ⟨_, _, _, _ :: ts, rfl, rfl, ?_, ?_⟩⟩
        · intro p hp
          rcases List.mem_cons.mp hp with rfl | hp
          · exact hn (D, listOf vs9 n) (.head _)
          · rcases List.mem_cons.mp hp with rfl | hp
            · exact hn _ (.tail _ (.head _))
            · rcases List.mem_cons.mp hp with rfl | hp
              · exact Nat.ne_of_gt l1.1
              · exact hn p (.tail _ (.tail _ hp))
        · intro p hp
          rcases List.mem_cons.mp hp with rfl | hp
          · rfl
          · exact hT p hp
        · rw [Array.toList_push, List.take_add_one, hc, List.map_append]
          refine (hA.out.imp fun _ _ q => q.mono fun p hp => .tail _ hp).append ⟨⟨_, ?_, ?_, rfl, ?_⟩, trivial⟩
          rotate_left 2
          · dsimp only
            rw [hux]
            exact .head _
    · rintro m news h tk9 ⟨u, vs9, n, ts, rfl, rfl, hT, hA⟩ F5 N5
      have e : (List.toArray ps).size = qs.length := by rw [List.size_toArray]; exact hS'.length
      refine ⟨rfl, u, h, tk9, vs9, n, _, rfl, F5, news_sub N5 ?_, hT, ?_⟩
      · intro p hp
        rcases List.mem_cons.mp hp with rfl | hp
        · exact .head _
        · exact .tail _ (.tail _ hp)
      · rw [e, List.take_length] at hA
        exact hA
  · rintro s' ⟨u, h2, tk2, vs, n, ts, rfl, F3, N3, hT, hA⟩
    repeat' tb_rel
    rename Fr _ _ _ _ => F4
    rename News _ _ _ _ => N4
    dsimp only
    exact ret _ _ D vs n ts (fun b x hx => F4.keep _ _ (hg1 b x hx (by simp))) (adds_of N4 (fun p hp => hp) hg1) hT hA
end Mine
end

section
open PySem PySem.W PyProof.Rows PySem.Calls
set_option maxRecDepth 100000
set_option maxHeartbeats 1000000
namespace Mine
def GoOk (b : Nat) (x r : Str) : Prop :=
  (dirS (nameN b)).length ≤ 4000 ∧ x.length ≤ 4000 ∧ (joinS (dirS (nameN b)) x).length ≤ 10000 ∧ ¬ (joinS (dirS (nameN b)) x).length = 0 ∧ (splitS (joinS (dirS (nameN b)) x)).1 = (Str.ofString "/") ∧ (splitS (joinS (dirS (nameN b)) x)).2.length ≤ 10000 ∧
  (Txt.split (splitS (joinS (dirS (nameN b)) x)).2 (Str.ofString "/")).length ≤ 10000 ∧ ((ncomps (joinS (dirS (nameN b)) x)).map (·.length)).sum + (ncomps (joinS (dirS (nameN b)) x)).length ≤ 10000 ∧
  (Txt.join (Str.ofString "/") (ncomps (joinS (dirS (nameN b)) x))).length ≤ 10000 ∧ normS (joinS (dirS (nameN b)) x) = r
def goR (d x r : Str) (q : Str × Str × List Str) : Bool := decide (joinS d x = q.1) && decide (splitS q.1 = ((Str.ofString "/"), q.2.1)) && decide (Txt.split q.2.1 (Str.ofString "/") = q.2.2) && Nat.ble d.length 4000 && Nat.ble x.length 4000 && Nat.ble q.1.length 10000 && !(q.1.length == 0) && Nat.ble q.2.1.length 10000 && Nat.ble q.2.2.length 10000 &&
  Nat.ble (((q.2.2.foldl nstep []).map (·.length)).sum + (q.2.2.foldl nstep []).length) 10000 && Nat.ble (Txt.join (Str.ofString "/") (q.2.2.foldl nstep [])).length 10000 && decide ((Str.ofString "/") ++ Txt.join (Str.ofString "/") (q.2.2.foldl nstep []) = r)
theorem go_of {b : Nat} {x r : Str} {q : Str × Str × List Str} (h : goR (dirS (nameN b)) x r q = true) : GoOk b x r := by
  obtain ⟨j, rest, ps⟩ := q
  unfold goR at h
  simp only [Bool.and_eq_true, decide_eq_true_eq, Bool.not_eq_true', beq_eq_false_iff_ne] at h
  obtain ⟨⟨⟨⟨⟨⟨⟨⟨⟨⟨⟨h1, h2⟩, h3⟩, h4⟩, h5⟩, h6⟩, h7⟩, h8⟩, h9⟩, h10⟩, h11⟩, h12⟩ := h
  have hs : splitS (joinS (dirS (nameN b)) x) = ((Str.ofString "/"), rest) := by rw [h1, h2]
  have hn : ncomps (joinS (dirS (nameN b)) x) = ps.foldl nstep [] := by
    unfold ncomps
    rw [hs]
    show (Txt.split rest (Str.ofString "/")).foldl nstep [] = _
    rw [h3]
  have hm : normS (joinS (dirS (nameN b)) x) = r := by
    unfold normS
    rw [hn]
    exact h12
  refine ⟨Nat.le_of_ble_eq_true h4, Nat.le_of_ble_eq_true h5, ?_, ?_, ?_, ?_, ?_, ?_, ?_, hm⟩
  · rw [h1]; exact Nat.le_of_ble_eq_true h6
  · rw [h1]; exact h7
  · rw [hs]
  · rw [hs]; exact Nat.le_of_ble_eq_true h8
  · rw [hs]
    show (Txt.split rest (Str.ofString "/")).length ≤ 10000
    rw [h3]; exact Nat.le_of_ble_eq_true h9
  · rw [hn]; exact Nat.le_of_ble_eq_true h10
  · rw [hn]; exact Nat.le_of_ble_eq_true h11
def dirsT : List Str := [(Str.ofString "/"), (Str.ofString "/a&"), (Str.ofString "/a&"), (Str.ofString "/a&/\""), (Str.ofString "/i<")]
theorem dirs_ok : ∀ b, b < 5 → dirS (nameN b) = dirsT.getD b (Str.ofString "") := by decide +kernel
def goT0 : List (Str × Str × List Str) := [((Str.ofString "/i"), (Str.ofString "i"), [(Str.ofString "i")]), ((Str.ofString "/i"), (Str.ofString "i"), [(Str.ofString "i")]), ((Str.ofString "/./<&/../../i"), (Str.ofString "./<&/../../i"), [(Str.ofString "."), (Str.ofString "<&"), (Str.ofString ".."), (Str.ofString ".."), (Str.ofString "i")]), ((Str.ofString "/a&/i"), (Str.ofString "a&/i"), [(Str.ofString "a&"), (Str.ofString "i")]), ((Str.ofString "/a&/i"), (Str.ofString "a&/i"), [(Str.ofString "a&"), (Str.ofString "i")]), ((Str.ofString "/./<&/../../a&/i"), (Str.ofString "./<&/../../a&/i"), [(Str.ofString "."), (Str.ofString "<&"), (Str.ofString ".."), (Str.ofString ".."), (Str.ofString "a&"), (Str.ofString "i")]), ((Str.ofString "/a&/<"), (Str.ofString "a&/<"), [(Str.ofString "a&"), (Str.ofString "<")]), ((Str.ofString "/a&/<"), (Str.ofString "a&/<"), [(Str.ofString "a&"), (Str.ofString "<")]), ((Str.ofString "/./<&/../../a&/<"), (Str.ofString "./<&/../../a&/<"), [(Str.ofString "."), (Str.ofString "<&"), (Str.ofString ".."), (Str.ofString ".."), (Str.ofString "a&"), (Str.ofString "<")]), ((Str.ofString "/a&/\"/>\t"), (Str.ofString "a&/\"/>\t"), [(Str.ofString "a&"), (Str.ofString "\""), (Str.ofString ">\t")]), ((Str.ofString "/a&/\"/>\t"), (Str.ofString "a&/\"/>\t"), [(Str.ofString "a&"), (Str.ofString "\""), (Str.ofString ">\t")]), ((Str.ofString "/./<&/../../a&/\"/>\t"), (Str.ofString "./<&/../../a&/\"/>\t"), [(Str.ofString "."), (Str.ofString "<&"), (Str.ofString ".."), (Str.ofString ".."), (Str.ofString "a&"), (Str.ofString "\""), (Str.ofString ">\t")]), ((Str.ofString "/i</\"i"), (Str.ofString "i</\"i"), [(Str.ofString "i<"), (Str.ofString "\"i")]), ((Str.ofString "/i</\"i"), (Str.ofString "i</\"i"), [(Str.ofString "i<"), (Str.ofString "\"i")]), ((Str.ofString "/./<&/../../i</\"i"), (Str.ofString "./<&/../../i</\"i"), [(Str.ofString "."), (Str.ofString "<&"), (Str.ofString ".."), (Str.ofString ".."), (Str.ofString "i<"), (Str.ofString "\"i")])]
def goT1 : List (Str × Str × List Str) := [((Str.ofString "/i"), (Str.ofString "i"), [(Str.ofString "i")]), ((Str.ofString "/a&/../i"), (Str.ofString "a&/../i"), [(Str.ofString "a&"), (Str.ofString ".."), (Str.ofString "i")]), ((Str.ofString "/a&/./<&/../../../i"), (Str.ofString "a&/./<&/../../../i"), [(Str.ofString "a&"), (Str.ofString "."), (Str.ofString "<&"), (Str.ofString ".."), (Str.ofString ".."), (Str.ofString ".."), (Str.ofString "i")]), ((Str.ofString "/a&/i"), (Str.ofString "a&/i"), [(Str.ofString "a&"), (Str.ofString "i")]), ((Str.ofString "/a&/../a&/i"), (Str.ofString "a&/../a&/i"), [(Str.ofString "a&"), (Str.ofString ".."), (Str.ofString "a&"), (Str.ofString "i")]), ((Str.ofString "/a&/./<&/../../../a&/i"), (Str.ofString "a&/./<&/../../../a&/i"), [(Str.ofString "a&"), (Str.ofString "."), (Str.ofString "<&"), (Str.ofString ".."), (Str.ofString ".."), (Str.ofString ".."), (Str.ofString "a&"), (Str.ofString "i")]), ((Str.ofString "/a&/<"), (Str.ofString "a&/<"), [(Str.ofString "a&"), (Str.ofString "<")]), ((Str.ofString "/a&/../a&/<"), (Str.ofString "a&/../a&/<"), [(Str.ofString "a&"), (Str.ofString ".."), (Str.ofString "a&"), (Str.ofString "<")]), ((Str.ofString "/a&/./<&/../../../a&/<"), (Str.ofString "a&/./<&/../../../a&/<"), [(Str.ofString "a&"), (Str.ofString "."), (Str.ofString "<&"), (Str.ofString ".."), (Str.ofString ".."), (Str.ofString ".."), (Str.ofString "a&"), (Str.ofString "<")]), ((Str.ofString "/a&/\"/>\t"), (Str.ofString "a&/\"/>\t"), [(Str.ofString "a&"), (Str.ofString "\""), (Str.ofString ">\t")]), ((Str.ofString "/a&/../a&/\"/>\t"), (Str.ofString "a&/../a&/\"/>\t"), [(Str.ofString "a&"), (Str.ofString ".."), (Str.ofString "a&"), (Str.ofString "\""), (Str.ofString ">\t")]), ((Str.ofString "/a&/./<&/../../../a&/\"/>\t"), (Str.ofString "a&/./<&/../../../a&/\"/>\t"), [(Str.ofString "a&"), (Str.ofString "."), (Str.ofString "<&"), (Str.ofString ".."), (Str.ofString ".."), (Str.ofString ".."), (Str.ofString "a&"), (Str.ofString "\""), (Str.ofString ">\t")]), ((Str.ofString "/i</\"i"), (Str.ofString "i</\"i"), [(Str.ofString "i<"), (Str.ofString "\"i")]), ((Str.ofString "/a&/../i</\"i"), (Str.ofString "a&/../i</\"i"), [(Str.ofString "a&"), (Str.ofString ".."), (Str.ofString "i<"), (Str.ofString "\"i")]), ((Str.ofString "/a&/./<&/../../../i</\"i"), (Str.ofString "a&/./<&/../../../i</\"i"), [(Str.ofString "a&"), (Str.ofString "."), (Str.ofString "<&"), (Str.ofString ".."), (Str.ofString ".."), (Str.ofString ".."), (Str.ofString "i<"), (Str.ofString "\"i")])]
def goT2 : List (Str × Str × List Str) := [((Str.ofString "/i"), (Str.ofString "i"), [(Str.ofString "i")]), ((Str.ofString "/a&/../i"), (Str.ofString "a&/../i"), [(Str.ofString "a&"), (Str.ofString ".."), (Str.ofString "i")]), ((Str.ofString "/a&/./<&/../../../i"), (Str.ofString "a&/./<&/../../../i"), [(Str.ofString "a&"), (Str.ofString "."), (Str.ofString "<&"), (Str.ofString ".."), (Str.ofString ".."), (Str.ofString ".."), (Str.ofString "i")]), ((Str.ofString "/a&/i"), (Str.ofString "a&/i"), [(Str.ofString "a&"), (Str.ofString "i")]), ((Str.ofString "/a&/../a&/i"), (Str.ofString "a&/../a&/i"), [(Str.ofString "a&"), (Str.ofString ".."), (Str.ofString "a&"), (Str.ofString "i")]), ((Str.ofString "/a&/./<&/../../../a&/i"), (Str.ofString "a&/./<&/../../../a&/i"), [(Str.ofString "a&"), (Str.ofString "."), (Str.ofString "<&"), (Str.ofString ".."), (Str.ofString ".."), (Str.ofString ".."), (Str.ofString "a&"), (Str.ofString "i")]), ((Str.ofString "/a&/<"), (Str.ofString "a&/<"), [(Str.ofString "a&"), (Str.ofString "<")]), ((Str.ofString "/a&/../a&/<"), (Str.ofString "a&/../a&/<"), [(Str.ofString "a&"), (Str.ofString ".."), (Str.ofString "a&"), (Str.ofString "<")]), ((Str.ofString "/a&/./<&/../../../a&/<"), (Str.ofString "a&/./<&/../../../a&/<"), [(Str.ofString "a&"), (Str.ofString "."), (Str.ofString "<&"), (Str.ofString ".."), (Str.ofString ".."), (Str.ofString ".."), (Str.ofString "a&"), (Str.ofString "<")]), ((Str.ofString "/a&/\"/>\t"), (Str.ofString "a&/\"/>\t"), [(Str.ofString "a&"), (Str.ofString "\""), (Str.ofString ">\t")]), ((Str.ofString "/a&/../a&/\"/>\t"), (Str.ofString "a&/../a&/\"/>\t"), [(Str.ofString "a&"), (Str.ofString ".."), (Str.ofString "a&"), (Str.ofString "\""), (Str.ofString ">\t")]), ((Str.ofString "/a&/./<&/../../../a&/\"/>\t"), (Str.ofString "a&/./<&/../../../a&/\"/>\t"), [(Str.ofString "a&"), (Str.ofString "."), (Str.ofString "<&"), (Str.ofString ".."), (Str.ofString ".."), (Str.ofString ".."), (Str.ofString "a&"), (Str.ofString "\""), (Str.ofString ">\t")]), ((Str.ofString "/i</\"i"), (Str.ofString "i</\"i"), [(Str.ofString "i<"), (Str.ofString "\"i")]), ((Str.ofString "/a&/../i</\"i"), (Str.ofString "a&/../i</\"i"), [(Str.ofString "a&"), (Str.ofString ".."), (Str.ofString "i<"), (Str.ofString "\"i")]), ((Str.ofString "/a&/./<&/../../../i</\"i"), (Str.ofString "a&/./<&/../../../i</\"i"), [(Str.ofString "a&"), (Str.ofString "."), (Str.ofString "<&"), (Str.ofString ".."), (Str.ofString ".."), (Str.ofString ".."), (Str.ofString "i<"), (Str.ofString "\"i")])]
def goT3 : List (Str × Str × List Str) := [((Str.ofString "/i"), (Str.ofString "i"), [(Str.ofString "i")]), ((Str.ofString "/a&/\"/../../i"), (Str.ofString "a&/\"/../../i"), [(Str.ofString "a&"), (Str.ofString "\""), (Str.ofString ".."), (Str.ofString ".."), (Str.ofString "i")]), ((Str.ofString "/a&/\"/./<&/../../../../i"), (Str.ofString "a&/\"/./<&/../../../../i"), [(Str.ofString "a&"), (Str.ofString "\""), (Str.ofString "."), (Str.ofString "<&"), (Str.ofString ".."), (Str.ofString ".."), (Str.ofString ".."), (Str.ofString ".."), (Str.ofString "i")]), ((Str.ofString "/a&/i"), (Str.ofString "a&/i"), [(Str.ofString "a&"), (Str.ofString "i")]), ((Str.ofString "/a&/\"/../../a&/i"), (Str.ofString "a&/\"/../../a&/i"), [(Str.ofString "a&"), (Str.ofString "\""), (Str.ofString ".."), (Str.ofString ".."), (Str.ofString "a&"), (Str.ofString "i")]), ((Str.ofString "/a&/\"/./<&/../../../../a&/i"), (Str.ofString "a&/\"/./<&/../../../../a&/i"), [(Str.ofString "a&"), (Str.ofString "\""), (Str.ofString "."), (Str.ofString "<&"), (Str.ofString ".."), (Str.ofString ".."), (Str.ofString ".."), (Str.ofString ".."), (Str.ofString "a&"), (Str.ofString "i")]), ((Str.ofString "/a&/<"), (Str.ofString "a&/<"), [(Str.ofString "a&"), (Str.ofString "<")]), ((Str.ofString "/a&/\"/../../a&/<"), (Str.ofString "a&/\"/../../a&/<"), [(Str.ofString "a&"), (Str.ofString "\""), (Str.ofString ".."), (Str.ofString ".."), (Str.ofString "a&"), (Str.ofString "<")]), ((Str.ofString "/a&/\"/./<&/../../../../a&/<"), (Str.ofString "a&/\"/./<&/../../../../a&/<"), [(Str.ofString "a&"), (Str.ofString "\""), (Str.ofString "."), (Str.ofString "<&"), (Str.ofString ".."), (Str.ofString ".."), (Str.ofString ".."), (Str.ofString ".."), (Str.ofString "a&"), (Str.ofString "<")]), ((Str.ofString "/a&/\"/>\t"), (Str.ofString "a&/\"/>\t"), [(Str.ofString "a&"), (Str.ofString "\""), (Str.ofString ">\t")]), ((Str.ofString "/a&/\"/../../a&/\"/>\t"), (Str.ofString "a&/\"/../../a&/\"/>\t"), [(Str.ofString "a&"), (Str.ofString "\""), (Str.ofString ".."), (Str.ofString ".."), (Str.ofString "a&"), (Str.ofString "\""), (Str.ofString ">\t")]), ((Str.ofString "/a&/\"/./<&/../../../../a&/\"/>\t"), (Str.ofString "a&/\"/./<&/../../../../a&/\"/>\t"), [(Str.ofString "a&"), (Str.ofString "\""), (Str.ofString "."), (Str.ofString "<&"), (Str.ofString ".."), (Str.ofString ".."), (Str.ofString ".."), (Str.ofString ".."), (Str.ofString "a&"), (Str.ofString "\""), (Str.ofString ">\t")]), ((Str.ofString "/i</\"i"), (Str.ofString "i</\"i"), [(Str.ofString "i<"), (Str.ofString "\"i")]), ((Str.ofString "/a&/\"/../../i</\"i"), (Str.ofString "a&/\"/../../i</\"i"), [(Str.ofString "a&"), (Str.ofString "\""), (Str.ofString ".."), (Str.ofString ".."), (Str.ofString "i<"), (Str.ofString "\"i")]), ((Str.ofString "/a&/\"/./<&/../../../../i</\"i"), (Str.ofString "a&/\"/./<&/../../../../i</\"i"), [(Str.ofString "a&"), (Str.ofString "\""), (Str.ofString "."), (Str.ofString "<&"), (Str.ofString ".."), (Str.ofString ".."), (Str.ofString ".."), (Str.ofString ".."), (Str.ofString "i<"), (Str.ofString "\"i")])]
def goT4 : List (Str × Str × List Str) := [((Str.ofString "/i"), (Str.ofString "i"), [(Str.ofString "i")]), ((Str.ofString "/i</../i"), (Str.ofString "i</../i"), [(Str.ofString "i<"), (Str.ofString ".."), (Str.ofString "i")]), ((Str.ofString "/i</./<&/../../../i"), (Str.ofString "i</./<&/../../../i"), [(Str.ofString "i<"), (Str.ofString "."), (Str.ofString "<&"), (Str.ofString ".."), (Str.ofString ".."), (Str.ofString ".."), (Str.ofString "i")]), ((Str.ofString "/a&/i"), (Str.ofString "a&/i"), [(Str.ofString "a&"), (Str.ofString "i")]), ((Str.ofString "/i</../a&/i"), (Str.ofString "i</../a&/i"), [(Str.ofString "i<"), (Str.ofString ".."), (Str.ofString "a&"), (Str.ofString "i")]), ((Str.ofString "/i</./<&/../../../a&/i"), (Str.ofString "i</./<&/../../../a&/i"), [(Str.ofString "i<"), (Str.ofString "."), (Str.ofString "<&"), (Str.ofString ".."), (Str.ofString ".."), (Str.ofString ".."), (Str.ofString "a&"), (Str.ofString "i")]), ((Str.ofString "/a&/<"), (Str.ofString "a&/<"), [(Str.ofString "a&"), (Str.ofString "<")]), ((Str.ofString "/i</../a&/<"), (Str.ofString "i</../a&/<"), [(Str.ofString "i<"), (Str.ofString ".."), (Str.ofString "a&"), (Str.ofString "<")]), ((Str.ofString "/i</./<&/../../../a&/<"), (Str.ofString "i</./<&/../../../a&/<"), [(Str.ofString "i<"), (Str.ofString "."), (Str.ofString "<&"), (Str.ofString ".."), (Str.ofString ".."), (Str.ofString ".."), (Str.ofString "a&"), (Str.ofString "<")]), ((Str.ofString "/a&/\"/>\t"), (Str.ofString "a&/\"/>\t"), [(Str.ofString "a&"), (Str.ofString "\""), (Str.ofString ">\t")]), ((Str.ofString "/i</../a&/\"/>\t"), (Str.ofString "i</../a&/\"/>\t"), [(Str.ofString "i<"), (Str.ofString ".."), (Str.ofString "a&"), (Str.ofString "\""), (Str.ofString ">\t")]), ((Str.ofString "/i</./<&/../../../a&/\"/>\t"), (Str.ofString "i</./<&/../../../a&/\"/>\t"), [(Str.ofString "i<"), (Str.ofString "."), (Str.ofString "<&"), (Str.ofString ".."), (Str.ofString ".."), (Str.ofString ".."), (Str.ofString "a&"), (Str.ofString "\""), (Str.ofString ">\t")]), ((Str.ofString "/i</\"i"), (Str.ofString "i</\"i"), [(Str.ofString "i<"), (Str.ofString "\"i")]), ((Str.ofString "/i</../i</\"i"), (Str.ofString "i</../i</\"i"), [(Str.ofString "i<"), (Str.ofString ".."), (Str.ofString "i<"), (Str.ofString "\"i")]), ((Str.ofString "/i</./<&/../../../i</\"i"), (Str.ofString "i</./<&/../../../i</\"i"), [(Str.ofString "i<"), (Str.ofString "."), (Str.ofString "<&"), (Str.ofString ".."), (Str.ofString ".."), (Str.ofString ".."), (Str.ofString "i<"), (Str.ofString "\"i")])]
def goAll (d : Str) (b : Nat) (t : List (Str × Str × List Str)) : Bool := (List.range 5).all fun g => (List.range 3).all fun y => goR d (lk (b, g, y)) (nameN g) (t.getD (3 * g + y) ((Str.ofString ""), (Str.ofString ""), []))
theorem go0 : goAll (Str.ofString "/") 0 goT0 = true := by decide +kernel
theorem go1 : goAll (Str.ofString "/a&") 1 goT1 = true := by decide +kernel
theorem go2 : goAll (Str.ofString "/a&") 2 goT2 = true := by decide +kernel
theorem go3 : goAll (Str.ofString "/a&/\"") 3 goT3 = true := by decide +kernel
theorem go4 : goAll (Str.ofString "/i<") 4 goT4 = true := by decide +kernel
theorem go_at {b g y : Nat} {d : Str} {t : List (Str × Str × List Str)} (hd : dirS (nameN b) = d) (h : goAll d b t = true) (hg : g < 5) (hy : y < 3) : GoOk b (lk (b, g, y)) (nameN g) := go_of (by
  rw [hd]
  exact List.all_eq_true.mp (List.all_eq_true.mp h g (List.mem_range.mpr hg)) y (List.mem_range.mpr hy))
theorem go_ok0 : ∀ b, b < 5 → ∀ g, g < 5 → ∀ y, y < 3 → GoOk b (lk (b, g, y)) (nameN g) := fun b hb g hg y hy =>
  match b, hb with
  | 0, _ => go_at (dirs_ok 0 (by decide)) go0 hg hy
  | 1, _ => go_at (dirs_ok 1 (by decide)) go1 hg hy
  | 2, _ => go_at (dirs_ok 2 (by decide)) go2 hg hy
  | 3, _ => go_at (dirs_ok 3 (by decide)) go3 hg hy
  | 4, _ => go_at (dirs_ok 4 (by decide)) go4 hg hy
end Mine
end

section
open PySem PySem.W PyProof.Rows PySem.Calls
set_option maxRecDepth 100000
set_option maxHeartbeats 1000000
namespace Mine
/-! the values of a page's text -/
def pieces : Str → List Str → List Str
  | first, [] => [first]
  | first, w :: r => (first ++ (Str.ofString "<l h=")) :: w :: pieces (Str.ofString "/>") r
theorem odds_pieces : ∀ (f : Str) (ws : List Str), odds (pieces f ws) = ws
  | _, [] => rfl
  | _, w :: r => by
    show w :: odds (pieces _ r) = w :: r
    rw [odds_pieces]
theorem pieces_cons : ∀ (f : Str) (ws : List Str), ∃ a r, pieces f ws = a :: r
  | f, [] => ⟨_, _, rfl⟩
  | f, _ :: _ => ⟨_, _, rfl⟩
theorem L_app (a b : Str) : (a ++ b).cps.toList = a.cps.toList ++ b.cps.toList := by rw [Str.cps_append, Array.toList_append]
theorem join_cons (y a b : Str) (r : List Str) : (Str.join y (a :: b :: r)).cps.toList = a.cps.toList ++ y.cps.toList ++ (Str.join y (b :: r)).cps.toList := by
  show (a ++ y ++ Str.join y (b :: r)).cps.toList = _
  rw [L_app, L_app]
def link1 (w : Str) : List Nat := (((Str.ofString "<l h=\"") ++ w) ++ (Str.ofString "\"/>")).cps.toList
theorem join_pieces : ∀ (ws : List Str) (f : Str), (Str.join (Str.ofString "\"") (pieces f ws)).cps.toList = f.cps.toList ++ (ws.map link1).flatten
  | [], f => by
    show f.cps.toList = _
    simp
  | w :: r, f => by
    obtain ⟨a, l, e⟩ := pieces_cons (Str.ofString "/>") r
    have ih := join_pieces r (Str.ofString "/>")
    show (Str.join (Str.ofString "\"") ((f ++ (Str.ofString "<l h=")) :: w :: pieces (Str.ofString "/>") r)).cps.toList = _
    rw [e] at ih ⊢
    rw [join_cons, join_cons, ih]
    simp only [L_app, List.map_cons, List.flatten_cons, link1, List.append_assoc]
    have e1 : ((Str.ofString "<l h=\"")).cps.toList = ((Str.ofString "<l h=")).cps.toList ++ ((Str.ofString "\"")).cps.toList := by decide
    have e2 : ((Str.ofString "\"/>")).cps.toList = ((Str.ofString "\"")).cps.toList ++ ((Str.ofString "/>")).cps.toList := by decide
    rw [e1, e2]
    simp only [List.append_assoc]
theorem free_split {c : Nat} : ∀ {a b x y : List Nat}, c ∉ a → c ∉ b → a ++ c :: x = b ++ c :: y → a = b ∧ x = y
  | [], [], x, y, _, _, h => ⟨rfl, (List.cons.inj h).2⟩
  | [], d :: b, x, y, _, hb, h => absurd (List.mem_cons.mpr (.inl (List.cons.inj h).1)) hb
  | d :: a, [], x, y, ha, _, h => absurd (List.mem_cons.mpr (.inl (List.cons.inj h).1.symm)) ha
  | d :: a, e :: b, x, y, ha, hb, h => by
    obtain ⟨rfl, h2⟩ := List.cons.inj h
    obtain ⟨rfl, e⟩ := free_split (fun q => ha (.tail _ q)) (fun q => hb (.tail _ q)) h2
    exact ⟨rfl, e⟩
theorem free_end {c : Nat} {a b y : List Nat} (ha : c ∉ a) (h : a = b ++ c :: y) : False := ha (by rw [h]; simp)
theorem str_of_L {a b : Str} (h : a.cps.toList = b.cps.toList) : a = b := by
  obtain ⟨⟨x⟩⟩ := a
  obtain ⟨⟨y⟩⟩ := b
  exact congrArg (fun l => Str.mk (Array.mk l)) h
theorem join_unique (c : Nat) : ∀ (ps qs : List Str), ps ≠ [] → qs ≠ [] → (∀ p ∈ ps, c ∉ p.cps.toList) → (∀ q ∈ qs, c ∉ q.cps.toList) → (Str.join ⟨#[c]⟩ ps).cps.toList = (Str.join ⟨#[c]⟩ qs).cps.toList → ps = qs
  | [], _, h, _, _, _, _ => absurd rfl h
  | _, [], _, h, _, _, _ => absurd rfl h
  | [p], [q], _, _, _, _, h => by rw [str_of_L (a := p) (b := q) h]
  | [p], q :: q2 :: r, _, _, hp, _, h => by
    rw [join_cons, List.append_assoc] at h
    exact (free_end (hp p (.head _)) h).elim
  | p :: p2 :: r, [q], _, _, _, hq, h => by
    rw [join_cons, List.append_assoc] at h
    exact (free_end (hq q (.head _)) h.symm).elim
  | p :: p2 :: r, q :: q2 :: r2, _, _, hp, hq, h => by
    rw [join_cons, join_cons, List.append_assoc, List.append_assoc] at h
    obtain ⟨e1, e2⟩ := free_split (hp p (.head _)) (hq q (.head _)) h
    have ih := join_unique c (p2 :: r) (q2 :: r2) (by simp) (by simp) (fun x hx => hp x (.tail _ hx)) (fun x hx => hq x (.tail _ hx)) e2
    rw [str_of_L e1, ih]
theorem split_pieces {x : Str} {ws : List Str} {f : Str} (hx : x.cps.toList = f.cps.toList ++ (ws.map link1).flatten) (hf : 34 ∉ f.cps.toList) (hw : ∀ w ∈ ws, 34 ∉ w.cps.toList) : Txt.split x (Str.ofString "\"") = pieces f ws := by
  have e34 : (Str.ofString "\"") = ⟨#[34]⟩ := by decide
  have hfree : ∀ (ws : List Str) (f : Str), 34 ∉ f.cps.toList → (∀ w ∈ ws, 34 ∉ w.cps.toList) → ∀ p ∈ pieces f ws, 34 ∉ p.cps.toList := by
    intro ws
    induction ws with
    | nil => intro f hf _ p hp; obtain rfl : p = f := by simpa [pieces] using hp
             exact hf
    | cons w r ih =>
      intro f hf hw p hp
      rcases List.mem_cons.mp hp with rfl | hp
      · rw [L_app]
        intro q
        rcases List.mem_append.mp q with q | q
        · exact hf q
        · revert q; decide
      · rcases List.mem_cons.mp hp with rfl | hp
        · exact hw _ (.head _)
        · exact ih _ (by decide) (fun w hw' => hw w (.tail _ hw')) p hp
  obtain ⟨a, r, e⟩ := pieces_cons f ws
  refine join_unique 34 _ _ ?_ (by rw [e]; simp) ?_ (hfree ws f hf hw) ?_
  · intro h
    have := PyProof.Rows.split_pos x (Str.ofString "\"")
    rw [h] at this
    simp at this
  · rw [e34]; exact StrLaws.split_free x 34
  · rw [← e34, StrLaws.join_split, join_pieces, hx]
end Mine
end

section
open PySem PySem.W PyProof.Rows PySem.Calls
set_option maxRecDepth 100000
set_option maxHeartbeats 1000000
namespace Mine
def outT (n : Nat) (ties : List Tie) : List Tie := ties.filter fun t => decide (t.1 = n)
def PageOk (kind n : Nat) (ties : List Tie) : Prop := (pageS kind n ties).length ≤ 10000 ∧ (∀ p ∈ odds (Txt.split (pageS kind n ties) (Str.ofString "\"")), PieceOk p) ∧ (Txt.split (pageS kind n ties) (Str.ofString "\"")).length ≤ 200 ∧
  valuesS (pageS kind n ties) = (outT n ties).map fun t => (((wl kind t).length : Int), lk t)
theorem page_L (kind n : Nat) : ∀ (ties : List Tie) (x : Str), (ties.foldl (pstep kind n) x).cps.toList = x.cps.toList ++ (((outT n ties).map (wl kind)).map link1).flatten
  | [], x => by simp [outT]
  | t :: r, x => by
    have ih := page_L kind n r (pstep kind n x t)
    rw [List.foldl_cons, ih]
    unfold pstep outT
    rw [List.filter_cons]
    by_cases h : t.1 = n
    · rw [if_pos h, if_pos (by simpa using h), L_app]
      simp only [List.map_cons, List.flatten_cons, List.append_assoc]
      rfl
    · rw [if_neg h, if_neg (by simpa using h)]
theorem pieces_len : ∀ (ws : List Str) (f : Str), (pieces f ws).length = 1 + 2 * ws.length
  | [], f => rfl
  | w :: r, f => by
    show (pieces _ r).length + 1 + 1 = _
    rw [pieces_len]
    simp; omega
theorem page_ok {kind n : Nat} {ties : List Tie} (hk : kind < 3) (hg : ∀ t ∈ ties, Good t) (hl : ties.length ≤ 13) : PageOk kind n ties := by
  have hgo : ∀ t ∈ outT n ties, Good t := fun t ht => hg t (List.mem_filter.mp ht).1
  have hol : (outT n ties).length ≤ 13 := Nat.le_trans (List.length_filter_le ..) hl
  have hs : Txt.split (pageS kind n ties) (Str.ofString "\"") = pieces (Str.ofString "") ((outT n ties).map (wl kind)) := by
    refine split_pieces (page_L kind n ties (Str.ofString "")) (by decide) fun w hw => ?_
    obtain ⟨t, ht, rfl⟩ := List.mem_map.mp hw
    exact (w_ok hk (hgo t ht)).free
  have ho : odds (Txt.split (pageS kind n ties) (Str.ofString "\"")) = (outT n ties).map (wl kind) := by rw [hs, odds_pieces]
  refine ⟨?_, ?_, ?_, ?_⟩
  · have h1 := page_len hk (n := n) (x := (Str.ofString "")) (ties := ties) hg
    have h3 : (Str.length (Str.ofString "")) = 0 := by decide
    unfold pageS
    omega
  · rw [ho]
    intro p hp
    obtain ⟨t, ht, rfl⟩ := List.mem_map.mp hp
    have z := (w_ok hk (hgo t ht)).le
    exact ⟨Nat.le_trans z (by decide), fun k _ => Nat.le_trans (unesc_le _ _ fun p hp => unescT_le p (List.mem_of_mem_take hp)) (Nat.le_trans z (by decide))⟩
  · rw [hs, pieces_len, List.length_map]; omega
  · unfold valuesS
    rw [ho, List.map_map]
    refine List.map_congr_left fun t ht => ?_
    show (((wl kind t).length : Int), unesc unescT (wl kind t)) = _
    have := (w_ok hk (hgo t ht)).back
    rw [show unesc unescT (wl kind t) = lk t from this]
end Mine
end

section
open PySem PySem.W PyProof.Rows PySem.Calls
set_option maxRecDepth 100000
namespace Mine
section
variable {prog : Program} {w : World} {A : Around} {s : Shared} {h₀ : Heap} {K : Frag} {p : Program} {loose : List Str} {mean : ExcName → Option Value} {mg mb : Str → Option Value}
  {R : Result → Shared → Prop} {name qual : Str} {params : Arguments} {body : List Stmt} {scope : Scope} {dV kV doc pm cdv ct oc : Value} {an od : Option Addr} {osl : Array (Option Value)} {f : Addr} {args : Args} {binds : List (Str × Value)}
/-- into a def some of whose names are cells -/
theorem enterC (X : K.In h₀) (T : Top p loose mean mg mb h₀) (st : h₀.StaysIn s.heap)
    (ho : K.lookup f = some ⟨oc, od, .func (fnOf name qual params body scope dV kV doc pm an cdv ct), osl⟩) (hcd : codeIn K cdv qual = true) (hroom : A.depth < recursionLimit)
    (hbind : BindsTo s (fnOf name qual params body scope dV kV doc pm an cdv ct) args binds)
    (hkind : ∀ n, ∀ x ∈ binds, scope.names.lookup x.1 = some .local ∨ (scope.names.lookup x.1 = some .cell ∧ ((cellsFrom n scope.names []).lookup x.1).isSome = true))
    (hnd : ((cellsFrom 0 scope.names []).map (·.1)).Nodup)
    (h : ∀ g L h₁ tk cells, K.In g → Top p loose mean mg mb g → (∀ b o, s.heap.get? b = some o → ¬ b ∈ List.map (fun (x : Addr × Obj) => x.1) [] → g.get? b = some o) → (∀ b o, g.get? b = some o → s.heap.get? b = some o) →
      Fr g L h₁ (bindL (envOfC qual scope L f cdv).kindOf binds fun _ => none) → News g L h₁ cells →
      CellsAre (bindC (envOfC qual scope L f cdv).kindOf binds fun _ => none) (cellsFrom (L + 1) scope.names []) cells →
      wpAny (model prog w) (A.deeper (envX qual scope L f cdv (cellsFrom (L + 1) scope.names []))) (execs body (envX qual scope L f cdv (cellsFrom (L + 1) scope.names [])))
        (fun fl s' => R (.ok (.ret (match fl with | .ret v => v | _ => .none))) s') (fun _ _ => False) { s with heap := h₁, toks := tk })
    (hco : scope.isCoroutine = false) (hgen : scope.isGenerator = false) (hk : scope.kind = .function) : codeAny (model prog w) A (.call (.ref f) args) R s := by
  have Xs := X.keeps st
  have Ts := T.keeps st
  refine codeAny_call_function (fd := fnOf name qual params body scope dV kV doc pm an cdv ct) (body := body) hroom (Xs _ _ ho) rfl hco hgen rfl (codeRec_of Xs hcd) (hbind _ _ _ _ ?_)
  refine wpAny_newFunctionEnv_cells hk (hkind _) fun env' he s' x => ?_
  subst he
  refine ⟨Ts.nolimit.keeps x.toInCall.keep, codeAny_func ?_⟩
  obtain ⟨h₁, tk, rfl, _⟩ := x.done
  have hk₁ := x.toInCall.keep
  obtain ⟨cells, NC, Y⟩ := Cl.news (h₀ := s.heap) (Nat.le_refl _) fun n c hm => ⟨x.cell n c (lookup_of_mem_nodup (cellsFrom_names scope.names 0 (s.heap.objs.size + 1) [] [] rfl ▸ hnd) hm), x.above n c hm⟩
  refine wpAny_mono (h s.heap s.heap.objs.size h₁ tk cells Xs Ts (fun b o e _ => e) (fun b o e => e) ⟨x.toInCall.ns, hk₁, Nat.le_refl _⟩ NC Y) (fun _ _ x => x) fun _ _ x => x.elim
end
end Mine
end

section
open PySem PySem.W PyProof.Rows PySem.Calls
set_option maxRecDepth 100000
namespace Mine
theorem newDict_inv {M : Model} {A : Around} {E : Value → Shared → Prop} {s : Shared} {Q Q' : Value → Shared → Prop} (h : wpAny M A newDict Q' E s)
   (k : Q' (.ref s.heap.objs.size) { s with heap := s.heap.push { cls := .type "dict", dict := none, data := .dict #[] } } → Q (.ref s.heap.objs.size) { s with heap := s.heap.push { cls := .type "dict", dict := none, data := .dict #[] } }) : wpAny M A newDict Q E s := fun Γ p hΓ => by
  have h1 := h Γ p hΓ
  exact (wpAny_newObj_type (k h1) : wpAny M A newDict Q E s) Γ p hΓ
section
variable {prog : Program} {w : World} {A : Around} {s : Shared} {env : Env} {Q : Flow → Shared → Prop} {g : Heap} {L : Addr} {m : Str → Option Value} {news : List (Addr × Obj)}
/-- y = {kx: vx for x in range(n)} where kx and vx call what they like and change nothing -/
theorem assign_dcomp {K : Type} [DecidableEq K] (knd : KeyKind prog w K) {kx vx iter : PySem.Expr} {x y : Str} {px py : Pos} {scope : Scope} {cl : List (Str × Addr)} {pos spos : Pos} (n : Nat) (FK : Value → K → Prop) (FV : Value → Value → Prop)
    (hsw : swapsWith (.DictComp kx vx [⟨.Name x px, iter, [], 0⟩] scope pos) (some (.Name y py)) spos.line env = pure true) (hL : env.locals = L)
    (hclos : closureFor scope env = pure cl) (hcell : ∀ z ∈ scope.names, z.2 ≠ .cell) (hkind : scope.kind = .function)
    (hnames : ∀ z ∈ scope.names, z.2 = .local → scope.names.lookup z.1 = some .local) (hx : scope.names.lookup x = some .local)
    (hy : env.kindOf y = some .local) (hp : (env.scope.kind == .class || (env.scope.kind == .module && env.locals != env.globals)) = false)
    (hs : ∀ x, foldedSetIterable iter env x = pure x) (hg1 : sysModules < g.objs.size)
    (h : wpAny (model prog w) A (eval iter env) (fun xv s₁ => ∃ r b t1 t2 t3, xv = .ref r ∧ IsRange s₁.heap r 0 b 1 t1 t2 t3 ∧ Builtin.Range.small 0 b 1 = true ∧ Builtin.Range.rangeSize 0 b 1 = (n : Int) ∧ n ≤ sizeLine ∧ A.handled = none ∧ Fr g L s₁.heap m ∧ News g L s₁.heap news ∧
      (∀ C (i : Nat) t s₃ m₃ E', i < n → s₃.heap.Ns C m₃ → m₃ x = some (.int i t) → Fr g L s₃.heap m → News g L s₃.heap news → wpAny (model prog w) A (eval kx (compEnvC scope cl C env)) (fun key s₄ => (∃ k, knd.is k key = true ∧ FK (.int i t) k) ∧ Keeps s₃ s₄) E' s₃) ∧
      (∀ C (i : Nat) t s₃ m₃ E', i < n → s₃.heap.Ns C m₃ → m₃ x = some (.int i t) → Fr g L s₃.heap m → News g L s₃.heap news → wpAny (model prog w) A (eval vx (compEnvC scope cl C env)) (fun v s₄ => FV (.int i t) v ∧ Keeps s₃ s₄) E' s₃) ∧
      (∀ D h' tk kvs vs, Fr g L h' (fun z => if z = y then some (.ref D) else m z) → News g L h' news → s₁.heap.get? D = none → D ≠ L → h'.DictOf knd D kvs → vs.length = n → (∀ (j : Nat) v, vs[j]? = some v → ∃ t, v = .int j t) → StoredAll FK FV vs kvs → (D == sysModules) = false → Q .next { s₁ with heap := h', toks := tk })) F0 s) :
    wpAny (model prog w) A (exec (.Assign [.Name y py] (.DictComp kx vx [⟨.Name x px, iter, [], 0⟩] scope pos) spos) env) Q F0 s := by
  subst hL
  rw [exec_Assign_Name_used _ _ _ _ hsw]
  refine wpAny_bind (wpAny_standAt (wpAny_bind ?_))
  show wpAny _ A (do let _ ← comprehension (.DictComp kx vx [⟨.Name x px, iter, [], 0⟩] scope pos) scope env _ newDict false (eval iter env) (some (assign (.Name y py) env))) _ _ s
  refine wpAny_bind (wpAny_mono (wpAny_comprehension_free (use := some (assign (.Name y py) env)) (Q := fun _ s' => Q .next s') rfl hs hclos hkind hnames
    (wpAny_mono h (fun xv s₁ h₁ => ?_) fun _ _ e => e)) (fun _ s' hq => wpAny_pure (wpAny_pure hq)) fun _ _ e => e)
  obtain ⟨r, b, t1, t2, t3, rfl, hr, hsm, hsz, hn, hh, F, N, hkey, hval, hfin⟩ := h₁
  refine wpAny_pyIter_range hr hsm ?_
  have W := Walks.range (prog := prog) (w := w) hh s₁.heap.objs.size 0 1 n
  have W' : Walks prog w A s₁.heap.objs.size [s₁.heap.objs.size] [s₁.heap.objs.size] n (fun i v => i < n ∧ ∃ t, v = .int i t) (fun i h => IsRangeIter h s₁.heap.objs.size ((0 : Int) + (i : Nat) * 1) ((n : Int) - (i : Nat)) 1) :=
    ⟨W.sub, W.frame, fun i s' Q' E' hi st hQ => W.item i s' Q' E' hi st fun v h' tk hP hst hk => hQ v h' tk ⟨hi, by
      obtain ⟨t, e⟩ := hP
      exact ⟨t, by rw [e]; congr 1; omega⟩⟩ hst hk, W.done, W.self⟩
  have up : ∀ (s₃ : Shared) o', (∀ b o, b ∉ [s₁.heap.objs.size] → (s₁.heap.push o').get? b = some o → s₃.heap.get? b = some o) → ∀ b o, s₁.heap.get? b = some o → s₃.heap.get? b = some o :=
    fun s₃ o' hk b o e => hk b o (fun hm => by rcases List.mem_cons.mp hm with rfl | hm; exact Nat.lt_irrefl _ (Heap.lt_size e); cases hm) (Heap.get?_push_of_some _ e)
  refine newDict_inv (comp_block_walkCD (knd := knd) (RR := fun acc C r s' => acc = .ref (s₁.heap.push { cls := .type "range_iterator", data := .fields #[_, _, _] }).objs.size → compPost (model prog w) A F0 (some (assign (.Name y py) env)) (fun _ s' => Q .next s') acc C r s') W' hn (fun _ => true) FK FV hcell hkind hx ?_ ?_ ⟨?_, ?_, ?_⟩ ?_) (fun z => wpAny_mono z (fun cenv s₄ z₄ => codeAny_mono z₄ fun r s' k => k rfl) fun _ _ e => e)
  · have e1 : (0 : Int) + ((0 : Nat) : Int) * 1 = 0 := rfl
    have e2 : (n : Int) - ((0 : Nat) : Int) = Builtin.Range.rangeSize 0 b 1 := by rw [hsz]; simp
    rw [e1, e2]
    exact Heap.get?_push_size _ rfl
  · intro b hb
    rcases List.mem_cons.mp hb with rfl | hb
    · show _ < (s₁.heap.push _).objs.size
      rw [Heap.size_push]
      exact Nat.lt_succ_self _
    · cases hb
  · intro C i v s₃ m₃ E' hP hn hm hk
    rw [List.forIn_nil]
    exact wpAny_pure ⟨rfl, s₃.heap, s₃.toks, rfl, fun _ _ e => e⟩
  · rintro C i v s₃ m₃ E' ⟨hi, t, rfl⟩ _ hn hm hk
    have u := up s₃ _ hk
    exact hkey C i t s₃ m₃ E' hi hn hm (F.keeps u) (News.grown N u)
  · rintro C i v s₃ m₃ E' ⟨hi, t, rfl⟩ _ hn hm hk
    have u := up s₃ _ hk
    exact hval C i t s₃ m₃ E' hi hn hm (F.keeps u) (News.grown N u)
  · intro D C h' tk m' kvs vs hD hC hDC hnC hlD hlen hP hF hk hacc
    have hn' := F.ns.push ({ cls := .type "range_iterator", data := .fields #[rawInt 0, rawInt (Builtin.Range.rangeSize 0 b 1), rawInt 1] } : Obj)
    have hLf : env.locals ∉ [s₁.heap.objs.size] := fun hm => by
      rcases List.mem_cons.mp hm with e | hm
      · exact Nat.lt_irrefl _ (e ▸ F.ns.lt)
      · cases hm
    have hLC : env.locals ≠ C := by rintro rfl; obtain ⟨o, _, _, ho, _⟩ := hn'; rw [hC] at ho; cases ho
    have hLD : env.locals ≠ D := by rintro rfl; obtain ⟨o, _, _, ho, _⟩ := hn'; rw [hD] at ho; cases ho
    show wpAny _ A (assign (.Name y py) env (.ref D)) _ _ _
    refine wpAny_assign_Name (wpAny_storeName_local hy (hn'.at' fun o e => hk _ o hLf e) (fun h₂ hn₂ hs₂ => ?_) hp)
    refine ⟨m', hnC.sameBut hs₂ (Ne.symm hLC), fun h₃ hs₃ => ?_⟩
    have keep : ∀ b o, b ≠ env.locals → s₁.heap.get? b = some o → h₃.get? b = some o := fun b o hb e =>
      hs₃.extBut b o (by rintro rfl; rw [Heap.get?_push_of_some _ e] at hC; cases hC) (hs₂.extBut b o hb (up { s₁ with heap := h' } _ hk b o e))
    refine hfin D h₃ _ kvs vs ⟨hn₂.sameBut hs₃ hLC, fun b o e => keep b o (Nat.ne_of_lt (Nat.lt_of_lt_of_le (Heap.lt_size e) F.above)) (F.keep b o e), F.above⟩
      (fun p hp => ⟨keep _ _ (N p hp).2.1 (N p hp).1, (N p hp).2⟩) ?_ hLD.symm ((hlD.extBut hs₂.extBut (Ne.symm hLD)).extBut hs₃.extBut hDC) hlen (fun j v e => (hP j v e).2) (by rw [List.filter_eq_self.mpr (fun _ _ => rfl)] at hF; exact hF) ?_
    · cases e : s₁.heap.get? D with
      | none => rfl
      | some o' => rw [Heap.get?_push_of_some _ e] at hD; cases hD
    · obtain rfl : D = (s₁.heap.push ({ cls := .type "range_iterator", data := .fields #[rawInt 0, rawInt (Builtin.Range.rangeSize 0 b 1), rawInt 1] } : Obj)).objs.size := by cases hacc; rfl
      rw [Heap.size_push]
      exact beq_false_of_ne (Nat.ne_of_gt (Nat.lt_succ_of_lt (Nat.lt_trans (Nat.lt_of_lt_of_le hg1 F.above) F.ns.lt)))
end
end Mine
end

section
open PySem PySem.W PyProof.Rows PySem.Calls
namespace Mine
theorem allLt_mem {d : Nat} {l : List (Addr × Obj)} (h : AllLt d l) : ∀ p ∈ l, p.1 ≠ d := by
  induction l with
  | nil => intro p hp; cases hp
  | cons q r ih =>
    have h' : @LT.lt Nat _ q.1 d ∧ AllLt d r := h
    intro p hp
    rcases List.mem_cons.mp hp with e | hp
    · rw [e]; exact Nat.ne_of_lt h'.1
    · exact ih h'.2 p hp
section
variable {prog : Program} {w : World} {K : Type} [DecidableEq K] {knd : KeyKind prog w K} {A : Around} {E : Value → Shared → Prop} {s : Shared} {d : Addr} {kvs : List (K × Value)} {k : K} {key dflt : Value}
theorem dget2 {Q : Value → Shared → Prop} (hD : s.heap.DictOf knd d kvs) (lo : (d == sysModules) = false) (hkey : knd.is k key = true) (h : Q ((valueAt kvs k).getD dflt) { s with toks := s.toks + 1 }) :
    wpAny (model prog w) A (call (.builtin "dict.get") [.ref d, key, dflt]) Q E s :=
  call_meetsIn PySem.F.slot_dict_get hD.typeIs PySem.F.entry_dict_get (PySem.F.args_dict_get_3 _ _ _) (meets_dict_get_default knd d hkey lo dflt) ⟨_, hD.mapOf, h⟩
theorem dgetm {pl : Sem Bool} {Q : Value × List Value → Shared → Prop} (hD : s.heap.DictOf knd d kvs) (h : Q (.builtin "dict.get", [.ref d]) s) : wpAny (model prog w) A (getMethod (.ref d) "get" pl) Q E s :=
  getMethod_builtin hD.typeIs PySem.F.plainAttrs_dict PySem.F.slot_dict_get PySem.F.type_dict_get hD.mapOf.noDict h
end
theorem valueAt_stored {K : Type} [DecidableEq K] : ∀ (kvs : List (K × Value)) (k : K) (v : Value) (k' : K), valueAt (stored kvs k v) k' = if k' = k then some v else valueAt kvs k' := by
  intro kvs k v k'
  unfold stored
  split
  · rename_i h
    induction kvs with
    | nil => simp at h
    | cons p r ih =>
      unfold valueAt at ih ⊢
      simp only [List.map_cons, List.find?_cons]
      by_cases e : p.1 = k
      · rw [if_pos e]
        by_cases e2 : k' = k
        · subst e2
          simp [e]
        · rw [if_neg e2]
          have e3 : ¬ p.1 = k' := by rw [e]; exact fun q => e2 q.symm
          simp only [e3, decide_false]
          by_cases h2 : (r.any fun kv => decide (kv.1 = k)) = true
          · rw [ih h2, if_neg e2]
          · have : r.map (fun kv => if kv.1 = k then (kv.1, v) else kv) = r := by
              rw [List.map_congr_left (g := id)]
              · simp
              · intro q hq
                have : ¬ q.1 = k := fun z => h2 (List.any_eq_true.mpr ⟨q, hq, by simpa using z⟩)
                rw [if_neg this]; rfl
            rw [this]
      · rw [if_neg e]
        have h2 : (r.any fun kv => decide (kv.1 = k)) = true := by
          simp only [List.any_cons, e, decide_false, Bool.false_or] at h
          exact h
        by_cases e4 : p.1 = k'
        · have e5 : ¬ k' = k := by rw [← e4]; exact e
          simp [e4, e5]
        · simp only [e4, decide_false]
          exact ih h2
  · rename_i h
    unfold valueAt
    rw [List.find?_append]
    by_cases e2 : k' = k
    · subst e2
      have : kvs.find? (fun kv => decide (kv.1 = k')) = none := by
        rw [List.find?_eq_none]
        intro x hx hq
        exact h (List.any_eq_true.mpr ⟨x, hx, hq⟩)
      rw [this]
      simp
    · rw [if_neg e2]
      cases q : kvs.find? (fun kv => decide (kv.1 = k')) with
      | some z => rfl
      | none => simp [Ne.symm e2]
theorem stored_ints {K : Type} [DecidableEq K] {kf : Nat → K} {F : Nat → Value → Prop} (hinj : ∀ i, i < 5 → ∀ j, j < 5 → kf i = kf j → i = j) {l : List Value} {kvs : List (K × Value)}
   (h : StoredAll (fun v k => ∃ (i : Nat) (t : Tok), v = .int i t ∧ k = kf i) (fun v y => ∃ (i : Nat), (∃ t, v = .int i t) ∧ F i y) l kvs) (hl : l.length ≤ 5) (hv : ∀ (j : Nat) v, l[j]? = some v → ∃ t, v = .int j t) :
    ∀ j, j < l.length → ∃ y, valueAt kvs (kf j) = some y ∧ F j y := by
  induction h with
  | nil => intro j hj; cases hj
  | snoc h1 hk hy ih =>
    rename_i l kvs v k y
    intro j hj
    rw [List.length_append, List.length_singleton] at hj hl
    obtain ⟨t, rfl⟩ := hv l.length v (by simp)
    obtain ⟨i, t2, e, rfl⟩ := hk
    obtain ⟨i2, ⟨t3, e3⟩, hF⟩ := hy
    cases e
    cases e3
    rw [valueAt_stored]
    by_cases e : j = l.length
    · subst e
      exact ⟨y, if_pos rfl, hF⟩
    · rw [if_neg (fun q => e (hinj _ (by omega) _ (by omega) q))]
      exact ih (by omega) (fun j v hv' => hv j v (by rw [List.getElem?_append_left (List.getElem?_eq_some_iff.mp hv').1]; exact hv')) j (by omega)
end Mine
end

section
open PySem PySem.W PyProof.Rows PySem.Calls PyProof.Rows.LCg
set_option maxRecDepth 100000
namespace Mine
section
variable {prog : Program} {w : World} {A : Around} {E : Value → Shared → Prop} {s : Shared} {g : Heap} {L : Addr} {m : Str → Option Value} {env : Env}
/-- one turn of a comprehension that keeps J -/
def CTurn (prog : Program) (w : World) (A : Around) (g : Heap) (L : Addr) (m : Str → Option Value) (env : Env) (elt : PySem.Expr) (x : Str) (scope : Scope) (cl : List (Str × Addr)) (s : Shared) (S : List (Addr × Obj) → Prop) (P : Nat → Value → Prop) (n : Nat) (J : Nat → List Value → List (Addr × Obj) → Prop) : Prop :=
  ∀ i v I oI C oC D m₂ h tk (E' : Value → Shared → Prop) ys news, i < n → P i v → J i ys news → NsObj oC m₂ → m₂ x = some v → Fr g L h m → News g L h ((I, oI) :: (C, oC) :: (D, lst ys) :: news) → Off3 I C D news → ((@Ne Nat I C) ∧ (@Ne Nat I D) ∧ (@Ne Nat C D)) →
    wpAny (model prog w) A (eval elt (compEnvC scope cl C env)) (fun y s' => ∃ h' tk' news', s' = { s with heap := h', toks := tk' } ∧ Fr g L h' m ∧ News g L h' ((I, oI) :: (C, oC) :: (D, lst ys) :: news') ∧ Off3 I C D news' ∧ S news' ∧ J (i + 1) (ys ++ [y]) news') E' { s with heap := h, toks := tk }
theorem lcomp_rest {elt : PySem.Expr} {x : Str} {scope : Scope} {cl : List (Str × Addr)} {S : List (Addr × Obj) → Prop} {P : Nat → Value → Prop} {Fin : List Value → List (Addr × Obj) → Prop} {n : Nat} {J : Nat → List Value → List (Addr × Obj) → Prop}
    (turn : CTurn prog w A g L m env elt x scope cl s S P n J) (done : ∀ ys news, J n ys news → Fin ys news) : ∀ k i ys news, i + k = n → J i ys news → CompRest prog w A g L m env elt x scope cl s S P Fin k i ys news
  | 0, i, ys, news, e, hj => CompRest.zero (done _ _ (by obtain rfl : i = n := by omega
                                                         exact hj))
  | k + 1, i, ys, news, e, hj => CompRest.succ fun v I oI C oC D m₂ h tk E' hP hC hx F N off ne =>
      wpAny_mono (turn i v I oI C oC D m₂ h tk E' ys news (by omega) hP hj hC hx F N off ne) (fun y s' z => by
        obtain ⟨h', tk', news', e1, F', N', o', S', j'⟩ := z
        exact ⟨h', tk', news', e1, F', N', o', S', lcomp_rest turn done k (i + 1) _ _ (by omega) j'⟩) fun _ _ e => e
theorem pyIter_str2 {x : Str} {t : Tok} {Q : Value → Shared → Prop}
    (hQ : ∀ (o : Obj) (ty : String), (∀ A' : Around, A'.handled = none → Walks prog w A' s.heap.objs.size [s.heap.objs.size] [s.heap.objs.size] x.cps.size (SignAt x) (fun i h => h.IsStrIter s.heap.objs.size ty x t i)) → (s.heap.push o).IsStrIter s.heap.objs.size ty x t 0 →
      Q (.ref s.heap.objs.size) { s with heap := s.heap.push o }) : wpAny (model prog w) A (pyIter (.str x t)) Q E s := by
  cases ha : x.cps.all (· < 128)
  · exact wpAny_pyIter_wide ha (hQ _ _ (fun A' hA => Walks.strWide hA _ x t) ⟨_, Heap.get?_push_size _ rfl, rfl, rfl⟩)
  · exact wpAny_pyIter_ascii ha (hQ _ _ (fun A' hA => Walks.strAscii hA _ x t) ⟨_, Heap.get?_push_size _ rfl, rfl, rfl⟩)
section
variable {elt iter : PySem.Expr} {x : Str} {px : Pos} {scope : Scope} {cl : List (Str × Addr)} {pos : Pos} {Q : Value → Shared → Prop}
theorem eval_lcomp_str (hF : Fr g L s.heap m) (hL : env.locals = L) (hh : A.handled = none) (hclos : closureFor scope env = pure cl) (hcell : ∀ y ∈ scope.names, y.2 ≠ .cell) (hkind : scope.kind = .function)
    (hnames : ∀ y ∈ scope.names, y.2 = .local → scope.names.lookup y.1 = some .local) (hx : scope.names.lookup x = some .local) (hs : ∀ x, foldedSetIterable iter env x = pure x)
    (h : wpAny (model prog w) A (eval iter env) (fun xv s₁ => ∃ y t news J, xv = .str y t ∧ y.length ≤ sizeLine ∧ Fr g L s₁.heap m ∧ News g L s₁.heap news ∧ J 0 [] news ∧
      CTurn prog w A g L m env elt x scope cl s₁ (fun _ => True) (SignAt y) y.cps.size J ∧
      (∀ D h tk ys news', J y.cps.size ys news' → Fr g L h m → News g L h ((D, lst ys) :: news') → Off1 D news' → Q (.ref D) { s₁ with heap := h, toks := tk })) E s) :
    wpAny (model prog w) A (eval (.ListComp elt [⟨.Name x px, iter, [], 0⟩] scope pos) env) Q E s := by
  subst hL
  rw [eval_ListComp]
  refine wpAny_comprehension_free (use := none) rfl hs hclos hkind hnames (wpAny_mono h (fun xv s₁ h₁ => ?_) fun _ _ e => e)
  obtain ⟨y, t, news, J, rfl, hsz, F, N, hj, turn, done⟩ := h₁
  refine pyIter_str2 fun o ty W hst => ?_
  have up : ∀ b o', s₁.heap.get? b = some o' → (s₁.heap.push o).get? b = some o' := fun b o' e => Heap.get?_push_of_some _ e
  refine block_U (Fin := FinE g env.locals m { s₁ with heap := s₁.heap.push o } Q) (W A hh) hsz (fun i h st => ⟨st.choose, st.choose_spec.1⟩) (fun i h h' o' nw st e e' _ _ _ => by
      obtain ⟨o1, e1, r⟩ := st
      rw [e] at e1; cases e1
      exact ⟨_, e', r⟩) hcell hkind hx hst (fun b hb => ?_)
    (F.keeps up) (N.grown up) (Nat.ne_of_lt F.ns.lt) (next_is_new F) (fun p hp => Nat.ne_of_lt (Heap.lt_size (N p hp).1)) trivial (lcomp_rest (s := { s₁ with heap := s₁.heap.push o }) turn (fun ys news' hj' D h tk F' N' o1 => done D h tk ys news' hj' F' N' o1) _ 0 [] news (Nat.zero_add _) hj) ?_
  · rw [List.mem_singleton.mp hb]
    show s₁.heap.objs.size < (s₁.heap.push _).objs.size
    rw [Heap.size_push]; exact Nat.lt_succ_self _
  · intro D C h tk m' ys news' F' N' o1 hn hC₀ hD₀ hCL hDL hCD offC fin
    refine ⟨m', hn, fun h'' hs'' => fin D h'' tk (F'.change hs'' hCL hC₀) (fun p hp => ?_) o1⟩
    refine ⟨hs''.extBut _ _ ?_ (N' p hp).1, (N' p hp).2⟩
    rcases List.mem_cons.mp hp with rfl | hp
    · exact Ne.symm hCD
    · exact offC p hp
theorem eval_lcomp_dict {K : Type} [DecidableEq K] (knd : KeyKind prog w K) (hF : Fr g L s.heap m) (hL : env.locals = L) (hh : A.handled = none) (hclos : closureFor scope env = pure cl) (hcell : ∀ y ∈ scope.names, y.2 ≠ .cell) (hkind : scope.kind = .function)
    (hnames : ∀ y ∈ scope.names, y.2 = .local → scope.names.lookup y.1 = some .local) (hx : scope.names.lookup x = some .local) (hs : ∀ x, foldedSetIterable iter env x = pure x)
    (h : wpAny (model prog w) A (eval iter env) (fun xv s₁ => ∃ d od kvs news J, xv = .ref d ∧ (d == sysModules) = false ∧ od.IsDictOf knd kvs ∧ (d, od) ∈ news ∧ kvs.length ≤ sizeLine ∧ Fr g L s₁.heap m ∧ News g L s₁.heap news ∧ J 0 [] news ∧
      CTurn prog w A g L m env elt x scope cl s₁ (fun nw => (d, od) ∈ nw) (fun i v => ∃ k x, kvs[i]? = some (k, x) ∧ knd.is k v = true) kvs.length J ∧
      (∀ D h tk ys news', J kvs.length ys news' → Fr g L h m → News g L h ((D, lst ys) :: news') → Off1 D news' → Q (.ref D) { s₁ with heap := h, toks := tk })) E s) :
    wpAny (model prog w) A (eval (.ListComp elt [⟨.Name x px, iter, [], 0⟩] scope pos) env) Q E s := by
  subst hL
  rw [eval_ListComp]
  refine wpAny_comprehension_free (use := none) rfl hs hclos hkind hnames (wpAny_mono h (fun xv s₁ h₁ => ?_) fun _ _ e => e)
  obtain ⟨d, od, kvs, news, J, rfl, lo, hd, hm, hsz, F, N, hj, turn, done⟩ := h₁
  obtain ⟨ep, hat⟩ := (kda_dict N hm hd).dictAt
  have hdlt : d < s₁.heap.objs.size := hat.lt_size
  have hne : d ≠ s₁.heap.objs.size := Nat.ne_of_lt hdlt
  refine wpAny_pyIter_dict lo hat ?_
  generalize ho : ({ cls := .type "dict_keyiterator", data := .fields #[.ref d, .int 0 0, .int kvs.length 0, .int ep 0] } : Obj) = o
  have up : ∀ b o', s₁.heap.get? b = some o' → (s₁.heap.push o).get? b = some o' := fun b o' e => Heap.get?_push_of_some _ e
  have hstand : ∀ h' : Heap, h'.get? d = some od → h'.DictAt knd d kvs ep := fun h' e => by
    obtain ⟨o1, es, ho1, r⟩ := hat
    rw [(N _ hm).1] at ho1; cases ho1
    exact ⟨od, es, e, r⟩
  refine block_U (Fin := FinE g env.locals m { s₁ with heap := s₁.heap.push o } Q) (Walks.dictKeys (knd := knd) hh s₁.heap.objs.size d hne kvs ep) hsz (fun i h st => ⟨st.1.choose, st.1.choose_spec.1⟩) (S := fun nw => (d, od) ∈ nw) (fun i h h' o' nw st e e' _ N' hS => ⟨by
      obtain ⟨o1, e1, r⟩ := st.1
      rw [e] at e1; cases e1
      exact ⟨_, e', r⟩, hstand h' (N' _ hS).1⟩) hcell hkind hx ⟨⟨o, Heap.get?_push_size _ (by rw [← ho]; rfl), by rw [← ho]; exact ⟨rfl, rfl⟩⟩, hat.push _⟩ (fun b hb => ?_)
    (F.keeps up) (N.grown up) (Nat.ne_of_lt F.ns.lt) (next_is_new F) (fun p hp => Nat.ne_of_lt (Heap.lt_size (N p hp).1)) hm (lcomp_rest (s := { s₁ with heap := s₁.heap.push o }) turn (fun ys news' hj' D h tk F' N' o1 => done D h tk ys news' hj' F' N' o1) _ 0 [] news (Nat.zero_add _) hj) ?_
  · show b < (s₁.heap.push _).objs.size
    rw [Heap.size_push]
    rcases List.mem_cons.mp hb with rfl | hb
    · exact Nat.lt_succ_self _
    · rw [List.mem_singleton.mp hb]; exact Nat.lt_succ_of_lt hdlt
  · intro D C h tk m' ys news' F' N' o1 hn hC₀ hD₀ hCL hDL hCD offC fin
    refine ⟨m', hn, fun h'' hs'' => fin D h'' tk (F'.change hs'' hCL hC₀) (fun p hp => ?_) o1⟩
    refine ⟨hs''.extBut _ _ ?_ (N' p hp).1, (N' p hp).2⟩
    rcases List.mem_cons.mp hp with rfl | hp
    · exact Ne.symm hCD
    · exact offC p hp
end
end
end Mine
end

section
open PySem
namespace Mine
/-! Dijkstra's loop and the relaxing rounds, no program in sight -/
abbrev Pr := Int × Str
section
variable (nm : Nat → Str) (wt : Tie → Int) (ties : List Tie)
def Step (m x : Pr) : Prop := ∃ t ∈ ties, m.2 = nm t.1 ∧ x = (m.1 + wt t, nm t.2.1)
def LexLe (a b : Pr) : Prop := lexLt b a = false
structure DState (H M : List Pr) : Prop where
  from_ : ∀ x ∈ H, (M = [] ∧ x = (0, nm 0)) ∨ ∃ m ∈ M, Step nm wt ties m x
  chain : ∀ i x, M[i]? = some x → (i = 0 ∧ x = (0, nm 0)) ∨ ∃ j m, j < i ∧ M[j]? = some m ∧ Step nm wt ties m x
  sorted : M.Pairwise LexLe
  below : ∀ m ∈ M, ∀ x ∈ H, LexLe m x
  once : (M.map (·.2)).Nodup
  closed : ∀ m ∈ M, ∀ x, Step nm wt ties m x → x ∈ H ∨ ∃ m' ∈ M, m'.2 = x.2 ∧ m'.1 ≤ x.1
  start : M = [] → H = [(0, nm 0)]
def measure (H : Nat) (seen : List Str) : Nat := H + (ties.filter fun t => !(seen.contains (nm t.1))).length
variable {nm wt ties}
theorem LexLe.fst {a b : Pr} (h : LexLe a b) : a.1 ≤ b.1 := by
  unfold LexLe lexLt at h
  split at h
  · omega
  · simp at h; omega
theorem LexLe.of_lt {a b : Pr} (h : a.1 < b.1) : LexLe a b := by
  unfold LexLe lexLt
  rw [if_neg (by omega)]
  simp; omega
theorem DState.init : DState nm wt ties [(0, nm 0)] [] :=
  ⟨fun x hx => .inl ⟨rfl, by simpa using hx⟩, fun i x h => by simp at h, List.Pairwise.nil, (fun m hm => nomatch hm), List.nodup_nil, (fun m hm => nomatch hm), fun _ => rfl⟩
/-- the least pair taken off leads to a place met before -/
theorem DState.pass {H H' M : List Pr} {x : Pr} (D : DState nm wt ties H M) (hp : (H' ++ [x]).Perm H) (hs : x.2 ∈ M.map (·.2)) : DState nm wt ties H' M := by
  have hx : x ∈ H := hp.mem_iff.mp (by simp)
  have hsub : ∀ y ∈ H', y ∈ H := fun y hy => hp.mem_iff.mp (by simp [hy])
  obtain ⟨m', hm', e'⟩ := List.mem_map.mp hs
  refine ⟨fun y hy => D.from_ y (hsub y hy), D.chain, D.sorted, fun m hm y hy => D.below m hm y (hsub y hy), D.once, fun m hm y hy => ?_, fun e => by subst e; cases hm'⟩
  rcases D.closed m hm y hy with h | h
  · rcases List.mem_append.mp (hp.mem_iff.mpr h) with h | h
    · exact .inl h
    · obtain rfl : y = x := by simpa using h
      exact .inr ⟨m', hm', e', (D.below m' hm' y hx).fst⟩
  · exact .inr h
/-- the least pair taken off leads to a new place -/
theorem DState.meet {H H' M : List Pr} {x : Pr} (hw : ∀ t ∈ ties, 0 < wt t) (D : DState nm wt ties H M) (hp : (H' ++ [x]).Perm H) (hmin : ∀ y ∈ H, LexLe x y) (hs : x.2 ∉ M.map (·.2)) {O : List Pr} (hO : ∀ y, y ∈ O ↔ Step nm wt ties x y) :
    DState nm wt ties (H' ++ O) (M ++ [x]) := by
  have hx : x ∈ H := hp.mem_iff.mp (by simp)
  have hsub : ∀ y ∈ H', y ∈ H := fun y hy => hp.mem_iff.mp (by simp [hy])
  have hxm : x ∈ M ++ [x] := by simp
  have hlt : ∀ y, Step nm wt ties x y → x.1 < y.1 := by
    rintro y ⟨t, ht, _, rfl⟩
    have := hw t ht
    show x.1 < x.1 + wt t
    omega
  refine ⟨fun y hy => .inr ?_, fun i y hy => ?_, ?_, fun m hm y hy => ?_, ?_, fun m hm y hy => ?_, fun e => by simp at e⟩
  · rcases List.mem_append.mp hy with hy | hy
    · rcases D.from_ y (hsub y hy) with ⟨e, rfl⟩ | ⟨m, hm, h⟩
      · have e2 := D.start e
        rw [e2] at hp
        have hl := hp.length_eq
        simp at hl
        subst hl; cases hy
      · exact ⟨m, by simp [hm], h⟩
    · exact ⟨x, hxm, (hO y).mp hy⟩
  · by_cases hi : i < M.length
    · rw [List.getElem?_append_left hi] at hy
      rcases D.chain i y hy with h | ⟨j, m, hj, hm, h⟩
      · exact .inl h
      · exact .inr ⟨j, m, hj, by rw [List.getElem?_append_left (by omega)]; exact hm, h⟩
    · rw [List.getElem?_append_right (by omega)] at hy
      have hi2 : i = M.length ∧ y = x := by
        rcases Nat.eq_zero_or_pos (i - M.length) with h0 | h0
        · rw [h0] at hy; simp at hy; exact ⟨by omega, hy.symm⟩
        · rw [List.getElem?_eq_none (by simp; omega)] at hy; cases hy
      obtain ⟨rfl, rfl⟩ := hi2
      rcases D.from_ y hx with ⟨e, h⟩ | ⟨m, hm, h⟩
      · exact .inl ⟨by simp [e], h⟩
      · obtain ⟨j, hj, e⟩ := List.mem_iff_getElem.mp hm
        exact .inr ⟨j, m, hj, by rw [List.getElem?_append_left hj, ← e]; exact List.getElem?_eq_getElem hj, h⟩
  · rw [List.pairwise_append]
    refine ⟨D.sorted, List.pairwise_singleton .., fun a ha b hb => ?_⟩
    obtain rfl : b = x := by simpa using hb
    exact D.below a ha b hx
  · rcases List.mem_append.mp hm with hm | hm
    · rcases List.mem_append.mp hy with hy | hy
      · exact D.below m hm y (hsub y hy)
      · have h1 := (D.below m hm x hx).fst
        have h2 := hlt y ((hO y).mp hy)
        exact .of_lt (by omega)
    · obtain rfl : m = x := by simpa using hm
      rcases List.mem_append.mp hy with hy | hy
      · exact hmin y (hsub y hy)
      · exact .of_lt (hlt y ((hO y).mp hy))
  · rw [List.map_append, List.nodup_append]
    refine ⟨D.once, by simp, fun a ha b hb => ?_⟩
    obtain rfl : b = x.2 := by simpa using hb
    rintro rfl
    exact hs ha
  · rcases List.mem_append.mp hm with hm | hm
    · rcases D.closed m hm y hy with h | ⟨m', hm', h⟩
      · rcases List.mem_append.mp (hp.mem_iff.mpr h) with h | h
        · exact .inl (by simp [h])
        · obtain rfl : y = x := by simpa using h
          exact .inr ⟨y, hxm, rfl, Int.le_refl _⟩
      · exact .inr ⟨m', by simp [hm'], h⟩
    · obtain rfl : m = x := by simpa using hm
      exact .inl (by simp [(hO y).mpr hy])
theorem DState.stop {H M : List Pr} (D : DState nm wt ties H M) (h : H = []) : M ≠ [] ∧ ∀ m ∈ M, ∀ x, Step nm wt ties m x → ∃ m' ∈ M, m'.2 = x.2 ∧ m'.1 ≤ x.1 := by
  subst h
  refine ⟨fun e => by have := D.start e; simp at this, fun m hm x hx => (D.closed m hm x hx).resolve_left (fun h => nomatch h)⟩
theorem measure_meet (seen : List Str) (p : Str) (hs : p ∉ seen) : (ties.filter fun t => !((seen ++ [p]).contains (nm t.1))).length + (ties.filter fun t => decide (nm t.1 = p)).length = (ties.filter fun t => !(seen.contains (nm t.1))).length := by
  induction ties with
  | nil => rfl
  | cons t r ih =>
    simp only [List.filter_cons]
    by_cases h1 : nm t.1 = p
    · have e1 : (!((seen ++ [p]).contains (nm t.1))) = false := by simp [h1]
      have e2 : (!(seen.contains (nm t.1))) = true := by simp [h1, hs]
      rw [e1, e2]
      simp only [h1, decide_true, if_true, Bool.false_eq_true, if_false, List.length_cons]
      omega
    · by_cases h2 : nm t.1 ∈ seen
      · have e1 : (!((seen ++ [p]).contains (nm t.1))) = false := by simp [h2]
        have e2 : (!(seen.contains (nm t.1))) = false := by simp [h2]
        rw [e1, e2]
        simp only [h1, decide_false, Bool.false_eq_true, if_false]
        exact ih
      · have e1 : (!((seen ++ [p]).contains (nm t.1))) = true := by simp [h1, h2]
        have e2 : (!(seen.contains (nm t.1))) = true := by simp [h2]
        rw [e1, e2]
        simp only [h1, decide_false, Bool.false_eq_true, if_false, if_true, List.length_cons]
        omega
end
end Mine
end

section
open PySem
namespace Mine
/-! the relaxing rounds -/
theorem nodup_le {α : Type} [DecidableEq α] : ∀ {l l' : List α}, l.Nodup → (∀ x ∈ l, x ∈ l') → l.length ≤ l'.length
  | [], _, _, _ => Nat.zero_le _
  | a :: r, l', hn, hs => by
    obtain ⟨h1, h2⟩ := List.nodup_cons.mp hn
    have h := nodup_le (l' := l'.erase a) h2 fun x hx => (List.mem_erase_of_ne (by rintro rfl; exact h1 hx)).mpr (hs x (.tail _ hx))
    have ha := hs a (.head _)
    rw [List.length_erase_of_mem ha] at h
    have := List.length_pos_of_mem ha
    show r.length + 1 ≤ _
    omega
theorem nodup_map_uniq {α β : Type} {f : α → β} : ∀ {l : List α}, (l.map f).Nodup → ∀ a ∈ l, ∀ b ∈ l, f a = f b → a = b
  | [], _, a, ha, _, _, _ => nomatch ha
  | x :: r, hn, a, ha, b, hb, e => by
    obtain ⟨h1, h2⟩ := List.nodup_cons.mp hn
    rcases List.mem_cons.mp ha with ea | ha'
    · rcases List.mem_cons.mp hb with eb | hb'
      · rw [ea, eb]
      · exact absurd (by rw [← ea, e]; exact List.mem_map_of_mem hb') h1
    · rcases List.mem_cons.mp hb with eb | hb'
      · exact absurd (by rw [← eb, ← e]; exact List.mem_map_of_mem ha') h1
      · exact nodup_map_uniq h2 a ha' b hb' e
section
variable {nm : Nat → Str} {wt : Tie → Int} {ties : List Tie} {M : List Pr}
def putF (f : Nat → Option Int) (g : Nat) (v : Int) : Nat → Option Int := fun k => if k = g then some v else f k
def relax (wt : Tie → Int) (f : Nat → Option Int) (t : Tie) : Nat → Option Int :=
  match f t.1 with
  | none => f
  | some v => match f t.2.1 with
    | none => putF f t.2.1 (v + wt t)
    | some u => if v + wt t < u then putF f t.2.1 (v + wt t) else f
def round (wt : Tie → Int) (ties : List Tie) (f : Nat → Option Int) : Nat → Option Int := ties.foldl (relax wt) f
def rounds (wt : Tie → Int) (ties : List Tie) : Nat → (Nat → Option Int)
  | 0 => fun k => if k = 0 then some 0 else none
  | n + 1 => round wt ties (rounds wt ties n)
theorem relax_less (f : Nat → Option Int) (t : Tie) {k : Nat} {v : Int} (h : f k = some v) : ∃ u, relax wt f t k = some u ∧ u ≤ v := by
  unfold relax
  cases h1 : f t.1 with
  | none => exact ⟨v, h, Int.le_refl _⟩
  | some a =>
    dsimp only
    cases h2 : f t.2.1 with
    | none =>
      dsimp only
      unfold putF
      by_cases e : k = t.2.1
      · rw [e, h2] at h; cases h
      · exact ⟨v, by rw [if_neg e]; exact h, Int.le_refl _⟩
    | some u =>
      dsimp only
      split
      · unfold putF
        by_cases e : k = t.2.1
        · rw [e, h2] at h
          cases h
          exact ⟨_, by rw [if_pos e], by omega⟩
        · exact ⟨v, by rw [if_neg e]; exact h, Int.le_refl _⟩
      · exact ⟨v, h, Int.le_refl _⟩
theorem relax_goal (f : Nat → Option Int) (t : Tie) {v : Int} (h : f t.1 = some v) : ∃ u, relax wt f t t.2.1 = some u ∧ u ≤ v + wt t := by
  unfold relax
  rw [h]
  dsimp only
  cases h2 : f t.2.1 with
  | none => exact ⟨_, by unfold putF; exact if_pos rfl, Int.le_refl _⟩
  | some u =>
    dsimp only
    split
    · exact ⟨_, by unfold putF; exact if_pos rfl, Int.le_refl _⟩
    · exact ⟨u, h2, by omega⟩
theorem relax_from (f : Nat → Option Int) (t : Tie) {k : Nat} {v : Int} (h : relax wt f t k = some v) : f k = some v ∨ ∃ a, f t.1 = some a ∧ k = t.2.1 ∧ v = a + wt t := by
  unfold relax at h
  cases h1 : f t.1 with
  | none => rw [h1] at h; exact .inl h
  | some a =>
    rw [h1] at h
    dsimp only at h
    have key : ∀ v, putF f t.2.1 (a + wt t) k = some v → f k = some v ∨ ∃ b, some a = some b ∧ k = t.2.1 ∧ v = b + wt t := fun v h => by
      unfold putF at h
      split at h
      · rename_i e; exact .inr ⟨a, rfl, e, (Option.some.inj h).symm⟩
      · exact .inl h
    cases h2 : f t.2.1 with
    | none => rw [h2] at h; exact key v h
    | some u =>
      rw [h2] at h
      dsimp only at h
      split at h
      · exact key v h
      · exact .inl h
theorem fold_less : ∀ (l : List Tie) (f : Nat → Option Int) {k : Nat} {v : Int}, f k = some v → ∃ u, l.foldl (relax wt) f k = some u ∧ u ≤ v
  | [], f, k, v, h => ⟨v, h, Int.le_refl _⟩
  | t :: r, f, k, v, h => by
    obtain ⟨u, hu, l1⟩ := relax_less (wt := wt) f t h
    obtain ⟨u2, hu2, l2⟩ := fold_less r _ hu
    exact ⟨u2, hu2, by omega⟩
theorem round_goal (f : Nat → Option Int) {t : Tie} (ht : t ∈ ties) {v : Int} (h : f t.1 = some v) : ∃ u, round wt ties f t.2.1 = some u ∧ u ≤ v + wt t := by
  obtain ⟨a, b, rfl⟩ := List.append_of_mem ht
  unfold round
  rw [List.foldl_append, List.foldl_cons]
  obtain ⟨u, hu, l1⟩ := fold_less (wt := wt) a f h
  obtain ⟨u2, hu2, l2⟩ := relax_goal (wt := wt) _ t hu
  obtain ⟨u3, hu3, l3⟩ := fold_less (wt := wt) b _ hu2
  exact ⟨u3, hu3, by omega⟩
/-- what the loop's end has -/
structure Certificate (nm : Nat → Str) (wt : Tie → Int) (ties : List Tie) (M : List Pr) : Prop where
  chain : ∀ i x, M[i]? = some x → (i = 0 ∧ x = (0, nm 0)) ∨ ∃ j m, j < i ∧ M[j]? = some m ∧ Step nm wt ties m x
  once : (M.map (·.2)).Nodup
  ne : M ≠ []
  closed : ∀ m ∈ M, ∀ x, Step nm wt ties m x → ∃ m' ∈ M, m'.2 = x.2 ∧ m'.1 ≤ x.1
theorem DState.cert (D : DState nm wt ties [] M) : Certificate nm wt ties M := ⟨D.chain, D.once, (D.stop rfl).1, (D.stop rfl).2⟩
variable (C : Certificate nm wt ties M) (hg : ∀ t ∈ ties, Good t) (inj : ∀ i, i < 5 → ∀ j, j < 5 → nm i = nm j → i = j)
include C in
theorem Certificate.start : (0, nm 0) ∈ M := by
  cases h : M with
  | nil => exact absurd h C.ne
  | cons x r =>
    rcases C.chain 0 x (by rw [h]; rfl) with ⟨_, rfl⟩ | ⟨j, m, hj, _⟩
    · exact .head _
    · cases hj
include C hg in
theorem Certificate.named : ∀ x ∈ M, ∃ k, k < 5 ∧ x.2 = nm k := fun x hx => by
  obtain ⟨i, hi, e⟩ := List.mem_iff_getElem.mp hx
  rcases C.chain i x (by rw [← e]; exact List.getElem?_eq_getElem hi) with ⟨_, rfl⟩ | ⟨j, m, _, _, t, ht, _, rfl⟩
  · exact ⟨0, by decide, rfl⟩
  · exact ⟨t.2.1, (hg t ht).2.1, rfl⟩
include C hg in
theorem Certificate.five : M.length ≤ 5 := by
  have hsub : (M.map (·.2)) ⊆ [nm 0, nm 1, nm 2, nm 3, nm 4] := fun s hs => by
    obtain ⟨x, hx, rfl⟩ := List.mem_map.mp hs
    obtain ⟨k, hk, e⟩ := C.named hg x hx
    rw [e]
    match k, hk with
    | 0, _ => simp
    | 1, _ => simp
    | 2, _ => simp
    | 3, _ => simp
    | 4, _ => simp
  have := nodup_le C.once hsub
  simpa using this
def Sound (nm : Nat → Str) (M : List Pr) (f : Nat → Option Int) : Prop := ∀ k v, f k = some v → k < 5 ∧ ∃ m ∈ M, m.2 = nm k ∧ m.1 ≤ v
include C hg in
theorem Certificate.sound_relax {f : Nat → Option Int} {t : Tie} (ht : t ∈ ties) (h : Sound nm M f) : Sound nm M (relax wt f t) := fun k v e => by
  rcases relax_from f t e with e | ⟨a, ha, rfl, rfl⟩
  · exact h k v e
  · obtain ⟨_, m, hm, e1, l1⟩ := h _ _ ha
    obtain ⟨m', hm', e2, l2⟩ := C.closed m hm _ ⟨t, ht, e1, rfl⟩
    exact ⟨(hg t ht).2.1, m', hm', e2, by dsimp only at l2; omega⟩
include C hg in
theorem Certificate.sound_fold : ∀ (l : List Tie) {f : Nat → Option Int}, (∀ t ∈ l, t ∈ ties) → Sound nm M f → Sound nm M (l.foldl (relax wt) f)
  | [], _, _, h => h
  | t :: r, _, hl, h => Certificate.sound_fold r (fun u hu => hl u (.tail _ hu)) (C.sound_relax hg (hl t (.head _)) h)
include C hg in
theorem Certificate.sound : ∀ n, Sound nm M (rounds wt ties n)
  | 0 => fun k v e => by
    unfold rounds at e
    split at e
    · cases e
      subst_vars
      exact ⟨by decide, _, C.start, rfl, Int.le_refl _⟩
    · cases e
  | n + 1 => C.sound_fold hg ties (fun t h => h) (Certificate.sound n)
include C hg inj in
theorem Certificate.quick : ∀ n i x, i ≤ n → M[i]? = some x → ∃ k v, k < 5 ∧ x.2 = nm k ∧ rounds wt ties n k = some v ∧ v ≤ x.1
  | 0, i, x, hi, e => by
    obtain rfl : i = 0 := by omega
    rcases C.chain 0 x e with ⟨_, rfl⟩ | ⟨j, m, hj, _⟩
    · exact ⟨0, 0, by decide, rfl, rfl, Int.le_refl _⟩
    · cases hj
  | n + 1, i, x, hi, e => by
    rcases C.chain i x e with ⟨_, rfl⟩ | ⟨j, m, hj, hm, t, ht, e1, rfl⟩
    · obtain ⟨k, v, hk, e2, hv, l⟩ := Certificate.quick n 0 _ (Nat.zero_le _) (show M[0]? = some (0, nm 0) by subst_vars; exact e)
      obtain ⟨u, hu, l2⟩ := fold_less (wt := wt) ties _ hv
      exact ⟨k, u, hk, e2, hu, by omega⟩
    · obtain ⟨k, v, hk, e2, hv, l⟩ := Certificate.quick n j m (by omega) hm
      have hkt : k = t.1 := inj _ hk _ (hg t ht).1 (by rw [← e2, e1])
      subst hkt
      obtain ⟨u, hu, l2⟩ := round_goal (ties := ties) (wt := wt) _ ht hv
      exact ⟨t.2.1, u, (hg t ht).2.1, rfl, hu, by dsimp only; omega⟩
include C hg inj in
theorem Certificate.same {k : Nat} {v : Int} : rounds wt ties 4 k = some v ↔ k < 5 ∧ (v, nm k) ∈ M := by
  have uniq : ∀ a ∈ M, ∀ b ∈ M, a.2 = b.2 → a = b := nodup_map_uniq C.once
  have fwd : ∀ x ∈ M, ∃ k v, k < 5 ∧ x.2 = nm k ∧ rounds wt ties 4 k = some v ∧ v ≤ x.1 := fun x hx => by
    obtain ⟨i, hi, rfl⟩ := List.mem_iff_getElem.mp hx
    have := C.five hg
    exact C.quick hg inj 4 i _ (by omega) (List.getElem?_eq_getElem hi)
  constructor
  · intro e
    obtain ⟨hk, m, hm, e1, l1⟩ := C.sound hg 4 k v e
    obtain ⟨k2, v2, hk2, e2, e3, l2⟩ := fwd m hm
    have : k2 = k := inj _ hk2 _ hk (by rw [← e2, e1])
    subst this
    rw [e] at e3
    cases e3
    have e4 : m = (v, nm k2) := Prod.ext (by dsimp only; omega) e1
    exact ⟨hk, e4 ▸ hm⟩
  · rintro ⟨hk, hm⟩
    obtain ⟨k2, v2, hk2, e2, e3, l2⟩ := fwd _ hm
    have : k2 = k := inj _ hk2 _ hk (by rw [← e2])
    subst this
    obtain ⟨_, m, hm2, e4, l4⟩ := C.sound hg 4 k2 v2 e3
    have := uniq m hm2 _ hm e4
    subst this
    rw [e3]
    congr 1
    dsimp only at l2 l4
    omega
end
end Mine
end

section
open PySem PySem.W PyProof.Rows PySem.Calls
set_option maxRecDepth 100000
namespace Mine
section
variable {prog : Program} {w : World} {A : Around} {E : Value → Shared → Prop} {s : Shared}
theorem ask_pair {u v : Value} {x y : Int × Str} {Q : Bool → Shared → Prop} (hx : PairAt s.heap u x) (hy : PairAt s.heap v y) (h : Q (lexLt x y) s) : wpAny (model prog w) A (keyLt' (tuples' true) u v) Q E s := by
  obtain ⟨a, t1, t2, rfl, ha⟩ := hx
  obtain ⟨b, t3, t4, rfl, hb⟩ := hy
  obtain ⟨x1, x2⟩ := x
  obtain ⟨y1, y2⟩ := y
  refine kat_lt ha rfl hb rfl ?_
  refine kat_cons (wpAny_eqBool_int ?_)
  by_cases e1 : x1 = y1
  · subst e1
    rw [beq_self_eq_true]
    refine kat_yes (kat_cons (wpAny_eqBool_str ?_))
    by_cases e2 : x2 = y2
    · subst e2
      simp only [decide_true]
      refine kat_yes (kat_nil ?_)
      rw [lex_irrefl] at h
      exact h
    · simp only [e2, decide_false]
      refine kat_no (kat_one _ _ ?_)
      refine PyProof.Rows.lt_str (x := x2) (y := y2) (t := t2) (u := t4) ?_
      unfold lexLt at h
      simp only [if_true] at h
      exact h
  · have e1' : (x1 == y1) = false := by simp [e1]
    rw [e1']
    refine kat_no ?_
    refine oneLt_int ?_
    unfold lexLt at h
    simp only [e1, if_false] at h
    exact h
end
/-! the tree of questions, answered by ranks -/
def runT {α : Type} (n : Nat) (c : Nat → Nat → Bool) : KasT α → Option α
  | .ret a => some a
  | .ask i j k => if i < n ∧ j < n then runT n c (k (c i j)) else none
theorem runT_wp {α : Type} {n : Nat} {c : Nat → Nat → Bool} {cmp : Nat → Nat → (Bool → Shared → Prop) → Shared → Prop} {s : Shared} (hc : ∀ i j, i < n → j < n → ∀ C : Bool → Shared → Prop, C (c i j) s → cmp i j C s) :
    ∀ (t : KasT α) {Q : α → Shared → Prop} {a : α}, runT n c t = some a → Q a s → t.kasWp cmp Q s
  | .ret b, Q, a, h, hq => by
    obtain rfl : b = a := Option.some.inj h
    exact hq
  | .ask i j k, Q, a, h, hq => by
    unfold runT at h
    split at h
    · rename_i hij
      exact hc i j hij.1 hij.2 _ (runT_wp hc (k (c i j)) h hq)
    · cases h
theorem runT_congr {α : Type} {n : Nat} {c c' : Nat → Nat → Bool} (hc : ∀ i j, i < n → j < n → c i j = c' i j) : ∀ (t : KasT α), runT n c t = runT n c' t
  | .ret b => rfl
  | .ask i j k => by
    unfold runT
    split
    · rename_i hij
      rw [hc i j hij.1 hij.2]
      exact runT_congr hc _
    · rfl
def okRanks (r : List Nat) : Bool := match runT r.length (fun i j => decide (r.getD i 0 < r.getD j 0)) (kas_sort r.length) with
  | none => false
  | some p => decide (p.toList.length = r.length) && p.toList.all (fun i => decide (i < r.length)) && decide (p.toList.map (fun i => r.getD i 0) = List.range r.length)
def allR (n : Nat) : Nat → List Nat → Bool
  | 0, r => okRanks r
  | k + 1, r => (List.range n).all fun a => r.contains a || allR n k (r ++ [a])
theorem allR_ok {n : Nat} : ∀ (k : Nat) (r q : List Nat), allR n k r = true → q.length = k → (∀ a ∈ q, a < n) → (r ++ q).Nodup → okRanks (r ++ q) = true
  | 0, r, q, h, hl, _, _ => by
    obtain rfl := List.length_eq_zero_iff.mp hl
    rw [List.append_nil]
    exact h
  | k + 1, r, [], _, hl, _, _ => by cases hl
  | k + 1, r, a :: q, h, hl, hq, hn => by
    unfold allR at h
    have h1 := List.all_eq_true.mp h a (List.mem_range.mpr (hq a (.head _)))
    rcases Bool.or_eq_true _ _ ▸ h1 with h2 | h2
    · have h3 : a ∈ r := by simpa using h2
      exact absurd rfl ((List.nodup_append.mp hn).2.2 a h3 a (.head _))
    · have e : r ++ a :: q = (r ++ [a]) ++ q := by simp
      rw [e] at hn ⊢
      exact allR_ok k (r ++ [a]) q h2 (by simpa using hl) (fun b hb => hq b (.tail _ hb)) hn
theorem all2 : allR 2 2 [] = true := by decide +kernel
theorem all3 : allR 3 3 [] = true := by decide +kernel
theorem all4 : allR 4 4 [] = true := by decide +kernel
theorem all5 : allR 5 5 [] = true := by decide +kernel
end Mine
end

section
open PySem PySem.W PyProof.Rows PySem.Calls
set_option maxRecDepth 100000
namespace Mine
abbrev PrS := Int × Str
def d0 : PrS := (0, ⟨#[]⟩)
theorem filter_le {α : Type} {p q : α → Bool} : ∀ (l : List α), (∀ z ∈ l, p z = true → q z = true) → (l.filter p).length ≤ (l.filter q).length
  | [], _ => Nat.le_refl _
  | a :: l, h => by
    have ih := filter_le l fun z hz => h z (.tail _ hz)
    rw [List.filter_cons, List.filter_cons]
    cases hp : p a with
    | true =>
      rw [h a (.head _) hp]
      simpa using ih
    | false =>
      cases q a with
      | true => simp; omega
      | false => simpa using ih
theorem filter_lt {α : Type} {p q : α → Bool} {x : α} : ∀ (l : List α), (∀ z ∈ l, p z = true → q z = true) → x ∈ l → p x = false → q x = true → (l.filter p).length < (l.filter q).length
  | a :: l, h, hx, h1, h2 => by
    rw [List.filter_cons, List.filter_cons]
    rcases List.mem_cons.mp hx with e | hx
    · subst e
      rw [h1, h2]
      have := filter_le l fun z hz => h z (.tail _ hz)
      simp; omega
    · have ih := filter_lt l (fun z hz => h z (.tail _ hz)) hx h1 h2
      cases hp : p a with
      | true =>
        rw [h a (.head _) hp]
        simpa using ih
      | false =>
        cases q a with
        | true => simp; omega
        | false => simpa using ih
def rk (xs : List PrS) (x : PrS) : Nat := (xs.filter fun y => lexLt y x).length
theorem lex_trans {x y z : PrS} (h1 : lexLt x y = true) (h2 : lexLt z y = true → False) : lexLt x z = true := by
  cases h : lexLt x z with
  | true => rfl
  | false =>
    have h3 : lexLt z y = false := by
      cases q : lexLt z y with
      | true => exact (h2 q).elim
      | false => rfl
    have h4 := lex_trans_le (x := y) (y := z) (z := x) h3 h
    rw [h4] at h1; cases h1
theorem rk_lt {xs : List PrS} {x y : PrS} (hx : x ∈ xs) : lexLt x y = decide (rk xs x < rk xs y) := by
  cases h : lexLt x y with
  | true =>
    refine (decide_eq_true (filter_lt (p := fun z => lexLt z x) (q := fun z => lexLt z y) (x := x) xs (fun z _ hz => ?_) hx (lex_irrefl x) h)).symm
    exact lex_trans hz fun q => by rw [lex_asymm h] at q; cases q
  | false =>
    refine (decide_eq_false (Nat.not_lt.mpr (filter_le (p := fun z => lexLt z y) (q := fun z => lexLt z x) xs fun z _ hz => ?_))).symm
    exact lex_trans hz fun q => by rw [h] at q; cases q
theorem rk_size {xs : List PrS} {x : PrS} (hx : x ∈ xs) : rk xs x < xs.length := by
  have := filter_lt (p := fun y => lexLt y x) (q := fun _ => true) (x := x) xs (fun _ _ _ => rfl) hx (lex_irrefl x) rfl
  have e : (xs.filter fun _ => true) = xs := List.filter_eq_self.mpr fun _ _ => rfl
  rw [e] at this
  exact this
theorem rk_inj {xs : List PrS} {x y : PrS} (hx : x ∈ xs) (hy : y ∈ xs) (h : rk xs x = rk xs y) : x = y := by
  refine lex_antisymm ?_ ?_
  · rw [rk_lt hy, h]; simp
  · rw [rk_lt hx, h]; simp
theorem getD_mem {xs : List PrS} {i : Nat} (h : i < xs.length) : xs.getD i d0 ∈ xs := by
  rw [List.getD_eq_getElem?_getD, List.getElem?_eq_getElem h]
  exact List.getElem_mem h
theorem okRanks_all {r : List Nat} (h2 : 2 ≤ r.length) (h5 : r.length ≤ 5) (hr : ∀ a ∈ r, a < r.length) (hn : r.Nodup) : okRanks r = true := by
  have key : ∀ n, allR n n [] = true → r.length = n → okRanks r = true := fun n h e => allR_ok n [] r h e (fun a ha => e ▸ hr a ha) hn
  match hl : r.length, h2, h5 with
  | 2, _, _ => exact key 2 all2 hl
  | 3, _, _ => exact key 3 all3 hl
  | 4, _, _ => exact key 4 all4 hl
  | 5, _, _ => exact key 5 all5 hl
theorem sort_keys {xs : List PrS} (h2 : 2 ≤ xs.length) (h5 : xs.length ≤ 5) (hn : xs.Nodup) :
    ∃ p : Array Nat, runT xs.length (fun i j => lexLt (xs.getD i d0) (xs.getD j d0)) (kas_sort xs.length) = some p ∧ (∀ i ∈ p.toList, i < xs.length) ∧ (p.toList.map fun i => xs.getD i d0).Pairwise (fun a b => lexLt a b = true) ∧
      ∀ x, x ∈ (p.toList.map fun i => xs.getD i d0) ↔ x ∈ xs := by
  have hok := okRanks_all (r := xs.map (rk xs)) (by simpa using h2) (by simpa using h5) (fun a ha => by
    obtain ⟨x, hx, rfl⟩ := List.mem_map.mp ha
    rw [List.length_map]
    exact rk_size hx) (by
    unfold List.Nodup
    rw [List.pairwise_map]
    exact List.Pairwise.imp_of_mem (fun ha hb hab e => hab (rk_inj ha hb e)) hn)
  have hg : ∀ i, i < xs.length → (xs.map (rk xs)).getD i 0 = rk xs (xs.getD i d0) := fun i hi => by
    simp [List.getD_eq_getElem?_getD, hi]
  unfold okRanks at hok
  rw [List.length_map] at hok
  have hc : runT xs.length (fun i j => lexLt (xs.getD i d0) (xs.getD j d0)) (kas_sort xs.length) = runT xs.length (fun i j => decide ((xs.map (rk xs)).getD i 0 < (xs.map (rk xs)).getD j 0)) (kas_sort xs.length) :=
    runT_congr (fun i j hi hj => by rw [hg i hi, hg j hj, rk_lt (getD_mem hi)]) _
  rw [← hc] at hok
  cases hr : runT xs.length (fun i j => lexLt (xs.getD i d0) (xs.getD j d0)) (kas_sort xs.length) with
  | none => rw [hr] at hok; cases hok
  | some p =>
    rw [hr] at hok
    simp only [Bool.and_eq_true, decide_eq_true_eq, List.all_eq_true] at hok
    obtain ⟨⟨_, hb⟩, hm⟩ := hok
    have hm' : p.toList.map (fun i => rk xs (xs.getD i d0)) = List.range xs.length := by
      rw [← hm]
      exact List.map_congr_left fun i hi => (hg i (hb i hi)).symm
    refine ⟨p, rfl, hb, ?_, fun x => ⟨fun h => ?_, fun h => ?_⟩⟩
    · have hp : (p.toList.map (fun i => rk xs (xs.getD i d0))).Pairwise (· < ·) := hm' ▸ List.pairwise_lt_range
      rw [List.pairwise_map] at hp ⊢
      exact List.Pairwise.imp_of_mem (fun ha hb' hab => by rw [rk_lt (getD_mem (hb _ ha))]; exact decide_eq_true hab) hp
    · obtain ⟨i, hi, rfl⟩ := List.mem_map.mp h
      exact getD_mem (hb i hi)
    · have : rk xs x ∈ List.range xs.length := List.mem_range.mpr (rk_size h)
      rw [← hm'] at this
      obtain ⟨i, hi, e⟩ := List.mem_map.mp this
      rw [← rk_inj (getD_mem (hb i hi)) h e]
      exact List.mem_map_of_mem hi
theorem sorted_eq : ∀ {l l' : List PrS}, l.Pairwise (fun a b => lexLt a b = true) → l'.Pairwise (fun a b => lexLt a b = true) → (∀ x, x ∈ l ↔ x ∈ l') → l = l'
  | [], [], _, _, _ => rfl
  | [], b :: l', _, _, h => nomatch (h b).mpr (.head _)
  | a :: l, [], _, _, h => nomatch (h a).mp (.head _)
  | a :: l, b :: l', h1, h2, h => by
    obtain ⟨ha, hl⟩ := List.pairwise_cons.mp h1
    obtain ⟨hb, hl'⟩ := List.pairwise_cons.mp h2
    have e : a = b := by
      rcases List.mem_cons.mp ((h a).mp (.head _)) with e | h3
      · exact e
      · rcases List.mem_cons.mp ((h b).mpr (.head _)) with e | h4
        · exact e.symm
        · have := lex_asymm (ha b h4)
          rw [hb a h3] at this; cases this
    subst e
    refine congrArg (a :: ·) (sorted_eq hl hl' fun x => ⟨fun hx => ?_, fun hx => ?_⟩)
    · rcases List.mem_cons.mp ((h x).mp (.tail _ hx)) with e | h3
      · subst e
        have := ha x hx
        rw [lex_irrefl] at this; cases this
      · exact h3
    · rcases List.mem_cons.mp ((h x).mpr (.tail _ hx)) with e | h3
      · subst e
        have := hb x hx
        rw [lex_irrefl] at this; cases this
      · exact h3
end Mine
end

section
open PySem PySem.W PyProof.Rows PySem.Calls
set_option maxRecDepth 100000
namespace Mine
section
variable {prog : Program} {w : World} {A : Around} {E : Value → Shared → Prop} {s : Shared} {g : Heap} {L : Addr} {m : Str → Option Value} {news ts : List (Addr × Obj)}
theorem pairs_firsts {h : Heap} (k : ∀ p ∈ ts, h.get? p.1 = some p.2) : ∀ {vs : List Value} {xs : List (Int × Str)}, All2 (PairIn ts) vs xs → ∃ fs : List Value, KatTups h vs fs ∧ fs.length = vs.length ∧ ∀ v ∈ fs, ∃ (n : Int) (t : Tok), v = .int n t
  | [], [], _ => ⟨[], KatTups.nil, rfl, fun _ h => nomatch h⟩
  | v :: vs, x :: xs, hp => by
    obtain ⟨⟨a, t, u, rfl, ha⟩, hr⟩ := hp
    obtain ⟨fs, h1, h2, h3⟩ := pairs_firsts k hr
    refine ⟨.int x.1 t :: fs, KatTups.cons (k _ ha) rfl rfl rfl h1, by simp [h2], fun v hv => ?_⟩
    rcases List.mem_cons.mp hv with rfl | hv
    · exact ⟨_, _, rfl⟩
    · exact h3 v hv
  | [], _ :: _, p => p.elim
  | _ :: _, [], p => p.elim
theorem All2.getD {P : Value → PrS → Prop} : ∀ {vs : List Value} {xs : List PrS} {i : Nat}, All2 P vs xs → i < vs.length → P (vs.getD i Value.none) (xs.getD i d0)
  | v :: vs, x :: xs, 0, hp, _ => hp.1
  | v :: vs, x :: xs, i + 1, hp, hi => hp.2.getD (i := i) (by simpa using hi)
  | [], _, _, _, hi => absurd hi (Nat.not_lt_zero _)
  | _ :: _, [], _, p, _ => p.elim
theorem all2_pick {P : Value → PrS → Prop} {vs : List Value} {xs : List PrS} (h : All2 P vs xs) : ∀ (l : List Nat), (∀ i ∈ l, i < vs.length) → All2 P (l.map fun i => vs.getD i Value.none) (l.map fun i => xs.getD i d0)
  | [], _ => trivial
  | i :: l, hi => ⟨h.getD (hi i (.head _)), all2_pick h l fun j hj => hi j (.tail _ hj)⟩
theorem sorted_pairs {l : Addr} {vs : List Value} {xs : List PrS} {Q : Value → Shared → Prop} (F : Fr g L s.heap m) (N : News g L s.heap news) (hl : s.heap.IsList l vs.toArray) (hA : All2 (PairIn ts) vs xs) (hts : ∀ p ∈ ts, p ∈ news)
    (h2 : 2 ≤ xs.length) (h5 : xs.length ≤ 5) (hn : xs.Nodup)
    (h : ∀ D n h' out ys, Fr g L h' m → News g L h' ((D, listOf (List.toArray out) n) :: news) → All2 (PairIn ts) out ys → ys.Pairwise (fun a b => lexLt a b = true) → (∀ x, x ∈ ys ↔ x ∈ xs) → Q (.ref D) { s with heap := h' }) :
    wpAny (model prog w) A (call (.builtin "sorted") [.ref l]) Q E s := by
  have hlen : vs.length = xs.length := hA.length
  refine kat_sorted F N hl (by omega) (by omega) fun D e1 h' F' N' hlt => ?_
  have k : ∀ p ∈ ts, h'.get? p.1 = some p.2 := fun p hp => (N' p (.tail _ (hts p hp))).1
  obtain ⟨fs, t1, t2, t3⟩ := pairs_firsts k hA
  refine kat_kind (T := .type "int") t1 (by omega) (fun v hv => ?_) (by rfl) ?_
  · obtain ⟨n, t, rfl⟩ := t3 v hv
    exact Looks.of_pure rfl
  · have e : tuples' (Value.type "int" != Value.type "tuple") = tuples' true := rfl
    rw [e]
    obtain ⟨p, hp, hb, hs, hm⟩ := sort_keys h2 h5 hn
    rw [hlen]
    refine runT_wp (fun i j hi hj C hC => ?_) _ hp ?_
    · exact ask_pair ((hA.getD (i := i) (by omega)).at k) ((hA.getD (i := j) (by omega)).at k) hC
    · refine KasFin.intro F' N' (.head fun q hq => Nat.ne_of_lt (hlt q hq)) fun h'' c F'' N'' => ?_
      exact h D c h'' _ _ F'' N'' (all2_pick hA p.toList fun i hi => by rw [hlen]; exact hb i hi) hs hm
end
end Mine
end

section
open PySem PySem.W PyProof.Rows PySem.Calls
namespace Mine
structure FarIs (kvs : List (Int × Value)) (f : Nat → Option Int) : Prop where
  keys : ∀ kv ∈ kvs, ∃ k : Nat, k < 5 ∧ kv.1 = (k : Int)
  some_ : ∀ (k : Nat) v, f k = some v → ∃ t, valueAt kvs (k : Int) = some (.int v t)
  none_ : ∀ k : Nat, f k = none → valueAt kvs (k : Int) = none
theorem stored_keys {K : Type} [DecidableEq K] {kvs : List (K × Value)} {k : K} {v : Value} : ∀ kv ∈ stored kvs k v, kv.1 = k ∨ ∃ q ∈ kvs, q.1 = kv.1 := by
  intro kv h
  unfold stored at h
  split at h
  · obtain ⟨q, hq, rfl⟩ := List.mem_map.mp h
    split
    · rename_i e; exact .inl e
    · exact .inr ⟨q, hq, rfl⟩
  · rcases List.mem_append.mp h with h | h
    · exact .inr ⟨kv, h, rfl⟩
    · obtain rfl := List.mem_singleton.mp h
      exact .inl rfl
theorem FarIs.init {wt : Tie → Int} {ties : List Tie} {t : Tok} : FarIs [(0, .int 0 t)] (rounds wt ties 0) := by
  refine ⟨fun kv h => ?_, fun k v h => ?_, fun k h => ?_⟩
  · obtain rfl := List.mem_singleton.mp h
    exact ⟨0, by decide, rfl⟩
  · unfold rounds at h
    split at h
    · rename_i e
      cases h; subst e
      exact ⟨t, rfl⟩
    · cases h
  · unfold rounds at h
    split at h
    · cases h
    · rename_i e
      unfold valueAt
      have : ¬ ((0 : Int) = (k : Int)) := by omega
      simp [this]
theorem FarIs.set {kvs : List (Int × Value)} {f : Nat → Option Int} {k : Nat} {v : Int} {t : Tok} (h : FarIs kvs f) (hk : k < 5) : FarIs (stored kvs (k : Int) (.int v t)) (putF f k v) := by
  refine ⟨fun kv hkv => ?_, fun j u e => ?_, fun j e => ?_⟩
  · rcases stored_keys kv hkv with e | ⟨q, hq, e⟩
    · exact ⟨k, hk, e⟩
    · rw [← e]; exact h.keys q hq
  · rw [valueAt_stored]
    unfold putF at e
    by_cases hj : j = k
    · subst hj
      rw [if_pos rfl] at e ⊢
      cases e
      exact ⟨t, rfl⟩
    · rw [if_neg hj] at e
      rw [if_neg (by omega)]
      exact h.some_ j u e
  · rw [valueAt_stored]
    unfold putF at e
    by_cases hj : j = k
    · rw [if_pos hj] at e; cases e
    · rw [if_neg hj] at e
      rw [if_neg (by omega)]
      exact h.none_ j e
theorem FarIs.isSome_ {kvs : List (Int × Value)} {f : Nat → Option Int} (h : FarIs kvs f) (k : Nat) : (valueAt kvs (k : Int)).isSome = (f k).isSome := by
  cases e : f k with
  | none => rw [h.none_ k e]; rfl
  | some v =>
    obtain ⟨t, e2⟩ := h.some_ k v e
    rw [e2]; rfl
theorem relax_none {wt : Tie → Int} {f : Nat → Option Int} {t : Tie} (h : f t.1 = none) : relax wt f t = f := by
  unfold relax; rw [h]
theorem relax_new {wt : Tie → Int} {f : Nat → Option Int} {t : Tie} {v : Int} (h : f t.1 = some v) (h2 : f t.2.1 = none) : relax wt f t = putF f t.2.1 (v + wt t) := by
  unfold relax; rw [h]; dsimp only; rw [h2]
theorem relax_lt {wt : Tie → Int} {f : Nat → Option Int} {t : Tie} {v u : Int} (h : f t.1 = some v) (h2 : f t.2.1 = some u) (h3 : v + wt t < u) : relax wt f t = putF f t.2.1 (v + wt t) := by
  unfold relax; rw [h]; dsimp only; rw [h2]; dsimp only; rw [if_pos h3]
theorem relax_ge {wt : Tie → Int} {f : Nat → Option Int} {t : Tie} {v u : Int} (h : f t.1 = some v) (h2 : f t.2.1 = some u) (h3 : ¬ v + wt t < u) : relax wt f t = f := by
  unfold relax; rw [h]; dsimp only; rw [h2]; dsimp only; rw [if_neg h3]
theorem far_length {kvs : List (Int × Value)} {f : Nat → Option Int} (h : FarIs kvs f) (hn : (kvs.map (·.1)).Nodup) : kvs.length ≤ 5 := by
  have hsub : ∀ x ∈ kvs.map (·.1), x ∈ ([0, 1, 2, 3, 4] : List Int) := fun x hx => by
    obtain ⟨kv, hkv, rfl⟩ := List.mem_map.mp hx
    obtain ⟨k, hk, e⟩ := h.keys kv hkv
    rw [e]
    match k, hk with
    | 0, _ => simp
    | 1, _ => simp
    | 2, _ => simp
    | 3, _ => simp
    | 4, _ => simp
  have := nodup_le hn hsub
  simpa using this
def pairK (f : Nat → Option Int) (kv : Int × Value) : Int × Str := ((f kv.1.toNat).getD 0, nameN kv.1.toNat)
theorem FarIs.item {kvs : List (Int × Value)} {f : Nat → Option Int} (h : FarIs kvs f) (hn : (kvs.map (·.1)).Nodup) {i : Nat} {k0 : Int} {x : Value} (hi : kvs[i]? = some (k0, x)) :
    ∃ (k : Nat) (v : Int) (t : Tok), k < 5 ∧ k0 = (k : Int) ∧ f k = some v ∧ x = .int v t ∧ valueAt kvs (k : Int) = some (.int v t) ∧ pairK f (k0, x) = (v, nameN k) := by
  have hv := valueAt_of_get hn hi
  obtain ⟨k, hk, e⟩ := h.keys _ (List.mem_of_getElem? hi)
  dsimp only at e
  subst e
  cases hf : f k with
  | none =>
    have := h.none_ k hf
    rw [this] at hv; cases hv
  | some v =>
    obtain ⟨t, ht⟩ := h.some_ k v hf
    rw [hv] at ht
    cases ht
    refine ⟨k, v, t, hk, rfl, hf, rfl, hv, ?_⟩
    unfold pairK
    dsimp only
    rw [Int.toNat_natCast, hf]
    rfl
theorem name_inj3 : ∀ i, i < 5 → ∀ j, j < 5 → nameN i = nameN j → i = j := by decide +kernel
theorem pairs_nodup {kvs : List (Int × Value)} {f : Nat → Option Int} (h : FarIs kvs f) (hn : (kvs.map (·.1)).Nodup) : (kvs.map (pairK f)).Nodup := by
  unfold List.Nodup at hn ⊢
  rw [List.pairwise_map] at hn ⊢
  refine List.Pairwise.imp_of_mem (fun {a b} ha hb hab e => ?_) hn
  obtain ⟨i, hi, ei⟩ := h.keys a ha
  obtain ⟨j, hj, ej⟩ := h.keys b hb
  have e2 := congrArg Prod.snd e
  unfold pairK at e2
  dsimp only at e2
  rw [ei, ej, Int.toNat_natCast, Int.toNat_natCast] at e2
  have := name_inj3 i hi j hj e2
  subst this
  exact hab (by rw [ei, ej])
theorem pairs_mem {kvs : List (Int × Value)} {f : Nat → Option Int} (h : FarIs kvs f) (hn : (kvs.map (·.1)).Nodup) (hf5 : ∀ k v, f k = some v → k < 5) (x : Int × Str) : x ∈ kvs.map (pairK f) ↔ ∃ k, k < 5 ∧ f k = some x.1 ∧ x.2 = nameN k := by
  constructor
  · intro hx
    obtain ⟨⟨k0, y⟩, hkv, rfl⟩ := List.mem_map.mp hx
    obtain ⟨i, hi, e⟩ := List.mem_iff_getElem.mp hkv
    obtain ⟨k, v, t, hk, rfl, hf, rfl, _, hp⟩ := h.item hn (show kvs[i]? = some (k0, y) by rw [← e]; exact List.getElem?_eq_getElem hi)
    rw [hp]
    exact ⟨k, hk, hf, rfl⟩
  · rintro ⟨k, hk, hf, e⟩
    obtain ⟨t, ht⟩ := h.some_ k x.1 hf
    unfold valueAt at ht
    obtain ⟨kv, hkv, _⟩ := Option.map_eq_some_iff.mp ht
    have h1 := List.find?_some hkv
    have h2 := List.mem_of_find?_eq_some hkv
    have h3 : kv.1 = (k : Int) := of_decide_eq_true h1
    refine List.mem_map.mpr ⟨kv, h2, ?_⟩
    unfold pairK
    rw [h3, Int.toNat_natCast, hf, ← e]
    rfl
theorem rounds_zero {wt : Tie → Int} {ties : List Tie} : ∀ n, ∃ v, rounds wt ties n 0 = some v
  | 0 => ⟨0, rfl⟩
  | n + 1 => by
    obtain ⟨v, hv⟩ := rounds_zero (wt := wt) (ties := ties) n
    obtain ⟨u, hu, _⟩ := fold_less (wt := wt) ties _ hv
    exact ⟨u, hu⟩
theorem far_two {kvs : List (Int × Value)} {wt : Tie → Int} {ties : List Tie} (h : FarIs kvs (rounds wt ties 4)) (hm : (0, 1, 0) ∈ ties) : 2 ≤ kvs.length := by
  obtain ⟨v, hv⟩ := rounds_zero (wt := wt) (ties := ties) 3
  obtain ⟨a, ha, _⟩ := fold_less (wt := wt) ties _ hv
  obtain ⟨b, hb, _⟩ := round_goal (wt := wt) (rounds wt ties 3) hm hv
  have key : ∀ (k : Nat) v, rounds wt ties 4 k = some v → (k : Int) ∈ kvs.map (·.1) := fun k v e => by
    obtain ⟨t, ht⟩ := h.some_ k v e
    unfold valueAt at ht
    obtain ⟨kv, hkv, _⟩ := Option.map_eq_some_iff.mp ht
    have h1 := List.find?_some hkv
    have h2 := List.mem_of_find?_eq_some hkv
    have h3 : kv.1 = (k : Int) := of_decide_eq_true h1
    exact List.mem_map.mpr ⟨kv, h2, h3⟩
  have := nodup_le (l := [(0 : Int), 1]) (l' := kvs.map (·.1)) (by simp) (fun x hx => by
    rcases List.mem_cons.mp hx with e | hx
    · rw [e]; exact key 0 a ha
    · obtain rfl := List.mem_singleton.mp hx
      exact key 1 b hb)
  simpa using this
theorem rounds_five {wt : Tie → Int} {ties : List Tie} (hg : ∀ t ∈ ties, Good t) : ∀ n k v, rounds wt ties n k = some v → k < 5 := by
  have step : ∀ (l : List Tie) (f : Nat → Option Int), (∀ t ∈ l, Good t) → (∀ k v, f k = some v → k < 5) → ∀ k v, l.foldl (relax wt) f k = some v → k < 5 := by
    intro l
    induction l with
    | nil => intro f _ h; exact h
    | cons t r ih =>
      intro f hl h
      refine ih _ (fun t ht => hl t (.tail _ ht)) fun k v e => ?_
      rcases relax_from f t e with e | ⟨_, _, rfl, _⟩
      · exact h k v e
      · exact (hl t (.head _)).2.1
  intro n
  induction n with
  | zero =>
    intro k v e
    unfold rounds at e
    split at e
    · subst_vars; decide
    · cases e
  | succ n ih => exact step ties _ hg ih
end Mine
end

section
open PySem PySem.W PyProof.Rows PySem.Calls
set_option maxRecDepth 100000
set_option maxHeartbeats 1000000
namespace Mine
local macro_rules | `(tactic| tb_rel) => `(tactic| first | (goal_has PySem.W.Frag.In; (fail_if_success (with_reducible show wpAny _ _ (call (Value.ref _) _ _) _ _ _)); walk1) | (goal_lacks PySem.W.Frag.In; (with_reducible show wpAny _ _ _ _ _ _); (fail_if_success (with_reducible show wpAny _ _ (execs (PySem.Stmt.While _ _ _ _ :: _) _) _ _ _)); (fail_if_success (with_reducible show wpAny _ _ (execs (PySem.Stmt.For _ _ _ _ _ :: _) _) _ _ _)); (fail_if_success (with_reducible show wpAny _ _ (call (Value.ref _) _ _) _ _ _)); (fail_if_success (with_reducible show wpAny _ _ (pyIter _) _ _ _)); (fail_if_success (with_reducible show wpAny _ _ (call (Value.builtin "str.split") _ _) _ _ _)); (fail_if_success (with_reducible show wpAny _ _ (call (Value.ref _) _ _) _ _ _)); (fail_if_success (with_reducible show wpAny _ _ (exec (PySem.Stmt.Try _ _ _ _ _) _) _ _ _)); (fail_if_success (with_reducible show wpAny _ _ (subscriptTail _ _ (Value.ref _) _) _ _ _)); (fail_if_success (with_reducible show wpAny _ _ (call (Value.builtin "str.join") _ _) _ _ _)); (fail_if_success (with_reducible show wpAny _ _ (exec (PySem.Stmt.Assign _ (PySem.Expr.DictComp _ _ _ _ _) _) _) _ _ _)); (fail_if_success (with_reducible show wpAny _ _ (compareOp CmpOp.NotEq (Value.ref _) _) _ _ _)); (fail_if_success (with_reducible show wpAny _ _ (compareOp CmpOp.NotIn _ _) _ _ _)); (fail_if_success (with_reducible show wpAny _ _ (call (Value.builtin "list.append") _ _) _ _ _)); (fail_if_success (with_reducible show wpAny _ _ (call (Value.builtin "dict.get") _ _) _ _ _)); first | walk1 | (dsimp only; walk1)) | ((fail_if_success (with_reducible show wpAny _ _ _ _ _ _)); (with_reducible refine Mine.ite_t (by with_reducible first | rfl | exact True.intro) ?_)) | ((fail_if_success (with_reducible show wpAny _ _ _ _ _ _)); (with_reducible refine Mine.ite_f (by decide) ?_)) | fail "no step")
local macro_rules | `(tactic| tb_start) => `(tactic| first | (goal_has PySem.W.Frag.In; (fail_if_success (with_reducible show wpAny _ _ (call (Value.ref _) _ _) _ _ _)); walk1) | (goal_lacks PySem.W.Frag.In; (with_reducible show wpAny _ _ _ _ _ _); (fail_if_success (with_reducible show wpAny _ _ (execs (PySem.Stmt.While _ _ _ _ :: _) _) _ _ _)); (fail_if_success (with_reducible show wpAny _ _ (execs (PySem.Stmt.For _ _ _ _ _ :: _) _) _ _ _)); (fail_if_success (with_reducible show wpAny _ _ (execs (PySem.Stmt.If _ _ _ _ :: _) _) _ _ _)); (fail_if_success (with_reducible show wpAny _ _ (call (Value.ref _) _ _) _ _ _)); (fail_if_success (with_reducible show wpAny _ _ (pyIter _) _ _ _)); (fail_if_success (with_reducible show wpAny _ _ (call (Value.builtin "str.split") _ _) _ _ _)); (fail_if_success (with_reducible show wpAny _ _ (call (Value.ref _) _ _) _ _ _)); (fail_if_success (with_reducible show wpAny _ _ (exec (PySem.Stmt.Try _ _ _ _ _) _) _ _ _)); (fail_if_success (with_reducible show wpAny _ _ (subscriptTail _ _ (Value.ref _) _) _ _ _)); (fail_if_success (with_reducible show wpAny _ _ (call (Value.builtin "str.join") _ _) _ _ _)); (fail_if_success (with_reducible show wpAny _ _ (exec (PySem.Stmt.Assign _ (PySem.Expr.DictComp _ _ _ _ _) _) _) _ _ _)); (fail_if_success (with_reducible show wpAny _ _ (compareOp CmpOp.NotEq (Value.ref _) _) _ _ _)); (fail_if_success (with_reducible show wpAny _ _ (compareOp CmpOp.NotIn _ _) _ _ _)); (fail_if_success (with_reducible show wpAny _ _ (call (Value.builtin "list.append") _ _) _ _ _)); (fail_if_success (with_reducible show wpAny _ _ (call (Value.builtin "dict.get") _ _) _ _ _)); first | walk1 | (dsimp only; walk1)) | ((fail_if_success (with_reducible show wpAny _ _ _ _ _ _)); (with_reducible refine Mine.ite_t (by with_reducible first | rfl | exact True.intro) ?_)) | ((fail_if_success (with_reducible show wpAny _ _ _ _ _ _)); (with_reducible refine Mine.ite_f (by decide) ?_)) | fail "no step")
theorem adds_ne {h h' : Heap} {ts : List (Addr × Obj)} {c : Addr} {o : Obj} (ad : Adds h h' ts) (hc : h.get? c = some o) : ∀ p ∈ ts, p.1 ≠ c := fun p hp e => by
  have := (ad p hp).2
  rw [e, hc] at this; cases this
def pairDat (x : Int × Str) : Dat := .tuple [.int x.1, .str x.2]
theorem pairs_dat {ts : List (Addr × Obj)} : ∀ {vs : List Value} {xs : List (Int × Str)}, All2 (PairIn ts) vs xs → DatAll ts vs (xs.map pairDat)
  | [], [], _ => .nil
  | _ :: _, _ :: _, ⟨⟨a, t, u, e, q⟩, r⟩ => by subst e; exact .cons (.tuple q (.cons (.int _ _) (.cons (.str _ _) .nil))) (pairs_dat r)
  | [], _ :: _, p => p.elim
  | _ :: _, [], p => p.elim
theorem name_ok : ∀ k, k < 5 → PyData.strOk (nameN k) = true ∧ (nameN k).length ≤ 200 := by decide +kernel
theorem name_inj : ∀ i, i < 5 → ∀ j, j < 5 → nameN i = nameN j → i = j := by decide +kernel
theorem pair_ok {x : Int × Str} (h : ∃ k, k < 5 ∧ x.2 = nameN k) : kqdOk 8 (pairDat x) = true := by
  obtain ⟨k, hk, e⟩ := h
  have := (name_ok k hk).1
  rw [← e] at this
  simp [pairDat, kqdOk, this]
theorem DState.named {wt : Tie → Int} {ties : List Tie} {H M : List Pr} (D : DState nameN wt ties H M) (hg : ∀ t ∈ ties, Good t) : ∀ x ∈ H, ∃ k, k < 5 ∧ x.2 = nameN k := fun x hx => by
  rcases D.from_ x hx with ⟨_, rfl⟩ | ⟨m, _, t, ht, _, rfl⟩
  · exact ⟨0, by decide, rfl⟩
  · exact ⟨t.2.1, (hg t ht).2.1, rfl⟩
theorem DState.namedM {wt : Tie → Int} {ties : List Tie} {H M : List Pr} (D : DState nameN wt ties H M) (hg : ∀ t ∈ ties, Good t) : ∀ x ∈ M, ∃ k, k < 5 ∧ x.2 = nameN k := fun x hx => by
  obtain ⟨i, hi, e⟩ := List.mem_iff_getElem.mp hx
  rcases D.chain i x (by rw [← e]; exact List.getElem?_eq_getElem hi) with ⟨_, rfl⟩ | ⟨j, m, _, _, t, ht, _, rfl⟩
  · exact ⟨0, by decide, rfl⟩
  · exact ⟨t.2.1, (hg t ht).2.1, rfl⟩
theorem PairAt.fn {h : Heap} {v : Value} {x y : Int × Str} (p : PairAt h v x) (q : PairAt h v y) : x = y := by
  obtain ⟨a, t, u, rfl, hx⟩ := p
  obtain ⟨b, t2, u2, e, hy⟩ := q
  cases e
  rw [hx] at hy
  have e2 := congrArg Obj.data (Option.some.inj hy)
  simp at e2
  exact Prod.ext e2.1.1 e2.2.1
theorem all2_key {ts : List (Addr × Obj)} {h : Heap} {key : Value → Int × Str} (k : ∀ p ∈ ts, h.get? p.1 = some p.2) : ∀ {vs : List Value} {xs : List (Int × Str)}, All2 (PairIn ts) vs xs → (∀ v ∈ vs, PairAt h v (key v)) → xs = vs.map key
  | [], [], _, _ => rfl
  | v :: _, x :: _, p, hk => by
    rw [List.map_cons, ← (p.1.at k).fn (hk v (.head _)), ← all2_key k p.2 fun v hv => hk v (.tail _ hv)]
  | [], _ :: _, p, _ => p.elim
  | _ :: _, [], p, _ => p.elim
theorem all2_of {ts : List (Addr × Obj)} {key : Value → Int × Str} : ∀ {vs : List Value}, (∀ v ∈ vs, PairIn ts v (key v)) → All2 (PairIn ts) vs (vs.map key)
  | [], _ => trivial
  | v :: _, h => ⟨h v (.head _), all2_of fun v hv => h v (.tail _ hv)⟩
theorem all2_mem {ts : List (Addr × Obj)} {key : Value → Int × Str} : ∀ {vs : List Value}, All2 (PairIn ts) vs (vs.map key) → ∀ v ∈ vs, PairIn ts v (key v)
  | _ :: _, h, v, hv => by
    rcases List.mem_cons.mp hv with rfl | hv
    · exact h.1
    · exact all2_mem h.2 v hv
theorem strs_dat {ts : List (Addr × Obj)} {vs : List Value} {xs : List Str} (h : StrsAre vs xs) : DatAll ts vs (xs.map Dat.str) := by
  induction h with
  | nil => exact .nil
  | cons x t _ ih => exact .cons (.str _ _) ih
abbrev Led (lm : Addr) (mv : Array Value) (nm : Nat) (ls : Addr) (sv : Array Value) (ns : Nat) (lh : Addr) (hv : Array Value) (nh : Nat) (D2 : Addr) (od : Obj) (ts : List (Addr × Obj)) : List (Addr × Obj) :=
  (lm, listOf mv nm) :: (ls, listOf sv ns) :: (lh, listOf hv nh) :: (D2, od) :: ts
section
variable {g h : Heap} {L lm ls lh D2 : Addr} {mv sv hv : Array Value} {nm ns nh : Nat} {od o' : Obj} {ts : List (Addr × Obj)}
theorem upd_h (hl : D2 < lh ∧ lh < ls ∧ ls < lm) (N : News g L h (Led lm mv nm ls sv ns lh hv nh D2 od ts)) (hT : Tups ts) : Upd lh (listOf hv nh) o' (Led lm mv nm ls sv ns lh hv nh D2 od ts) ((lm, listOf mv nm) :: (ls, listOf sv ns) :: (lh, o') :: (D2, od) :: ts) :=
  .tail (Nat.ne_of_gt (Nat.lt_trans hl.2.1 hl.2.2)) (.tail (Nat.ne_of_gt hl.2.1) (.head (fun p hp => by
    rcases List.mem_cons.mp hp with rfl | hp
    · exact Nat.ne_of_lt hl.1
    · exact tup_ne N (.tail _ (.tail _ (.tail _ (.tail _ hp)))) (.tail _ (.tail _ (.head _))) (hT p hp))))
theorem upd_s (hl : D2 < lh ∧ lh < ls ∧ ls < lm) (N : News g L h (Led lm mv nm ls sv ns lh hv nh D2 od ts)) (hT : Tups ts) : Upd ls (listOf sv ns) o' (Led lm mv nm ls sv ns lh hv nh D2 od ts) ((lm, listOf mv nm) :: (ls, o') :: (lh, listOf hv nh) :: (D2, od) :: ts) :=
  .tail (Nat.ne_of_gt hl.2.2) (.head (fun p hp => by
    rcases List.mem_cons.mp hp with rfl | hp
    · exact Nat.ne_of_lt hl.2.1
    · rcases List.mem_cons.mp hp with rfl | hp
      · exact Nat.ne_of_lt (Nat.lt_trans hl.1 hl.2.1)
      · exact tup_ne N (.tail _ (.tail _ (.tail _ (.tail _ hp)))) (.tail _ (.head _)) (hT p hp)))
theorem upd_m (hl : D2 < lh ∧ lh < ls ∧ ls < lm) (N : News g L h (Led lm mv nm ls sv ns lh hv nh D2 od ts)) (hT : Tups ts) : Upd lm (listOf mv nm) o' (Led lm mv nm ls sv ns lh hv nh D2 od ts) ((lm, o') :: (ls, listOf sv ns) :: (lh, listOf hv nh) :: (D2, od) :: ts) :=
  .head (fun p hp => by
    rcases List.mem_cons.mp hp with rfl | hp
    · exact Nat.ne_of_lt hl.2.2
    · rcases List.mem_cons.mp hp with rfl | hp
      · exact Nat.ne_of_lt (Nat.lt_trans hl.2.1 hl.2.2)
      · rcases List.mem_cons.mp hp with rfl | hp
        · exact Nat.ne_of_lt (Nat.lt_trans hl.1 (Nat.lt_trans hl.2.1 hl.2.2))
        · exact tup_ne N (.tail _ (.tail _ (.tail _ (.tail _ hp)))) (.head _) (hT p hp))
end
theorem news_bcdea {g h : Heap} {L : Addr} {a b c d e : Addr × Obj} {r : List (Addr × Obj)} (N : News g L h (a :: b :: c :: d :: e :: r)) : News g L h (b :: c :: d :: e :: a :: r) := news_sub N fun p hp => (List.perm_middle (l₁ := [b, c, d, e]) (a := a) (l₂ := r)).subset hp
theorem tups_cons {p : Addr × Obj} {ts : List (Addr × Obj)} (h : p.2.cls = .type "tuple") (hT : Tups ts) : Tups (p :: ts) := fun q hq => by
  rcases List.mem_cons.mp hq with rfl | hq
  · exact h
  · exact hT q hq
theorem IsHeap.congr {key key' : Value → Int × Str} {hv : Array Value} (h : IsHeap (keyLe key) hv) (e : ∀ v ∈ hv, key' v = key v) : IsHeap (keyLe key') hv := fun i x y hi hb hx hy => by
  have := h i x y hi hb hx hy
  unfold keyLe at this ⊢
  rw [e x (Array.mem_of_getElem? hx), e y (Array.mem_of_getElem? hy)]
  exact this
theorem key_ext {h : Heap} {key : Value → Int × Str} {hv : Array Value} {v : Value} {x : Int × Str} (hk : ∀ u ∈ hv, PairAt h u (key u)) (hx : PairAt h v x) (hup : IsHeap (keyLe key) hv) :
    ∃ key' : Value → Int × Str, (∀ u ∈ hv, key' u = key u) ∧ (∀ u ∈ hv, PairAt h u (key' u)) ∧ PairAt h v (key' v) ∧ key' v = x ∧ IsHeap (keyLe key') hv := by
  have e : ∀ u ∈ hv, (fun u => if u = v then x else key u) u = key u := fun u hu => by
    show (if u = v then x else key u) = key u
    split
    · rename_i q; subst q; exact hx.fn (hk u hu)
    · rfl
  exact ⟨fun u => if u = v then x else key u, e, fun u hu => by rw [e u hu]; exact hk u hu, by simpa using hx, by simp, hup.congr e⟩
theorem DState.perm {nm : Nat → Str} {wt : Tie → Int} {ties : List Tie} {H H' M : List Pr} (D : DState nm wt ties H M) (hp : H'.Perm H) (hne : M ≠ []) : DState nm wt ties H' M :=
  ⟨fun x hx => D.from_ x (hp.mem_iff.mp hx), D.chain, D.sorted, fun m hm x hx => D.below m hm x (hp.mem_iff.mp hx), D.once, fun m hm x hx => (D.closed m hm x hx).imp (fun h => hp.mem_iff.mpr h) id, fun h => absurd h hne⟩
theorem news_abced {g h : Heap} {L : Addr} {a b c d e : Addr × Obj} {r : List (Addr × Obj)} (N : News g L h (a :: b :: c :: d :: e :: r)) : News g L h (a :: b :: c :: e :: d :: r) := news_sub N fun p hp => (((List.Perm.swap d e r).cons c).cons b |>.cons a).subset hp
theorem news_led {g h : Heap} {L : Addr} {t i a b c d e : Addr × Obj} {r : List (Addr × Obj)} (N : News g L h (t :: i :: a :: b :: c :: d :: e :: r)) : News g L h (i :: a :: b :: c :: d :: e :: t :: r) := news_sub N fun p hp => (List.perm_middle (l₁ := [i, a, b, c, d, e]) (a := t) (l₂ := r)).subset hp
theorem met_c {w : World} {s : Shared} {h₀ : Heap} {mean : ExcName → Option Value} {mg mb : Str → Option Value} (X : (hd.heap_39 w.params).In h₀) (T : TT mean mg mb h₀) (st : h₀.StaysIn s.heap) {lt : Addr} {items : Array Value} {ties : List Tie} {kind : Nat} {tkk : Tok} {R : Result → Shared → Prop} (hl : s.heap.IsList lt items) (hi : All2 (TieAt s.heap) items.toList ties) (hk : kind < 3)
  (hg : ∀ t ∈ ties, Good t) (hlen : ties.length ≤ 13)
  (ret : ∀ h' tk' D mv nm ts M, Ext s.heap h' → Adds s.heap h' ((D, listOf mv nm) :: ts) → Tups ts → All2 (PairIn ts) mv.toList M → DState nameN (fun t => ((wl kind t).length : Int)) ties [] M → R (.ok (.ret (.ref D))) { s with heap := h', toks := tk' }) :
  codeAny (MM w) (A0 440) (.call (.ref 246) ⟨[.ref lt, .int kind tkk], []⟩) R s := by
  obtain ⟨ol, hol, hol1, hol2⟩ := hl
  refine' enterC (binds := [((Str.ofString "ties"), .ref lt), ((Str.ofString "kind"), .int kind tkk)]) X T st ?a2 ?a3 ?a4 ?a5 ?a6 ?a7 ?a8 ?a9 ?a10 ?a11
  case a2 => k_is
  case a3 => k_is
  case a4 => decide
  case a5 => exact BindsTo.of_eq rfl
  case a6 => exact kindsX rfl
  case a7 => decide
  case a9 => exact rfl
  case a10 => exact rfl
  case a11 => exact rfl
  intro g L h₁ tk₁ cells Xg Tg hg1 hg2 F N Y
  obtain ⟨o1, o2, o3, rfl, d1, d2, d3⟩ := CellsAre.three Y
  have hlg : g.IsList lt items := ⟨_, hg1 _ _ hol (by simp), hol1, hol2⟩
  have hig : All2 (TieAt g) items.toList ties := hi.imp fun _ _ q => q.keeps fun b o e => hg1 b o e (by simp)
  replace d1 : o1.data = .cell none := d1.trans (by with_unfolding_all rfl)
  replace d2 : o2.data = .cell (some (.int kind tkk)) := d2.trans (by with_unfolding_all rfl)
  replace d3 : o3.data = .cell (some (.ref lt)) := d3.trans (by with_unfolding_all rfl)
  replace F : Fr g L h₁ (fun _ => none) := by with_unfolding_all exact F
  clear Y
  repeat' tb_rel
  rename Fr _ _ _ _ => F1
  rename News _ _ _ _ => N1
  refine call_up (n := 480) rfl (Nat.le_of_ble_eq_true rfl) (Nat.le_of_ble_eq_true rfl) ?_
  refine places_c Xg Tg (by exact F1.keep) fun h2 tk2 D vp tp e2 a2 t2 p2 => ?_
  obtain ⟨F2, N2⟩ := behindL F1 N1 e2 a2
  have ne1 := adds_ne a2 (show h₁.get? (L + 1 + 1 + 1) = some o1 from (N1 _ (.head _)).1)
  replace N2 := news_sub N2 (b := (L + 1 + 1 + 1, o1) :: (L + 1 + 1, o2) :: (L + 1, o3) :: (D, listOf (List.toArray vp) 0) :: tp) (fun p hp => (List.perm_append_comm (l₁ := [(L + 1 + 1 + 1, o1), (L + 1 + 1, o2), (L + 1, o3)]) (l₂ := (D, listOf (List.toArray vp) 0) :: tp)).subset hp)
  dsimp only [RV]
  refine storeX_C F2 N2 rfl (.head ?_) d1 (fun h3 o1' F3 N3 d1' => ?_)
  · intro p hp
    rcases List.mem_cons.mp hp with rfl | hp
    · exact Nat.ne_of_lt (Nat.lt_succ_self _)
    · rcases List.mem_cons.mp hp with rfl | hp
      · exact Nat.ne_of_lt (Nat.lt_succ_of_lt (Nat.lt_succ_self _))
      · exact ne1 p hp
  (try clear F2 N2 F1 N1)
  clear o1 d1
  repeat' tb_rel
  rename Fr _ _ _ _ => F4
  rename News _ _ _ _ => N4
  refine' assign_dcomp (g := g) (m := fun _ => none) (news := (L + 1 + 1 + 1, o1') :: (L + 1 + 1, o2) :: (L + 1, o3) :: (D, listOf (List.toArray vp) 0) :: tp) (strKind _ w) 5 (fun v k => ∃ (i : Nat) (t : Tok), v = .int i t ∧ k = nameN i) (fun v y => ∃ (i : Nat), (∃ t, v = .int i t) ∧ ∃ u, y = .str (pageS kind i ties) u) (cl := [((Str.ofString "ties"), L + 1), ((Str.ofString "places"), L + 1 + 1 + 1), ((Str.ofString "kind"), L + 1 + 1)]) ?z1 ?z2 ?z3 ?z4 ?z5 ?z6 ?z7 ?z8 ?z9 ?z10 ?z11 ?z12
  case z1 => with_unfolding_all rfl
  case z2 => rfl
  case z3 => with_unfolding_all rfl
  case z4 => decide
  case z5 => rfl
  case z6 => decide
  case z7 => rfl
  case z8 => rfl
  case z9 => rfl
  case z10 => exact fun _ => rfl
  case z11 =>
    have h206 : ∃ o, (hd.heap_39 w.params).lookup 206 = some o := ⟨_, by k_is⟩
    obtain ⟨o, ho⟩ := h206
    exact Nat.lt_trans (by decide) (Heap.lt_size (Xg _ _ ho))
  case z12 =>
    repeat' tb_rel
    rename Fr _ _ _ _ => F5
    rename News _ _ _ _ => N5
    rename IsRange _ _ _ _ _ _ _ _ => hR
    refine ⟨_, _, _, _, _, rfl, hR, rfl, rfl, by rw [sizeLine_eq]; omega, rfl, F5, N5, ?_, ?_, ?_⟩
    · intro C i t s₃ m₃ E' hi hn hm FB NB
      clear F5 N5 hR
      obtain ⟨xk, hxk, qx⟩ := p2.get' (place_at i hi)
      obtain ⟨ax, vx, rfl, hax, hsx⟩ := qx
      repeat' tb_rel
      refine item_at (list_of NB (.tail _ (.tail _ (.tail _ (.head _))))) (by omega) (by omega) (v := .ref ax) (by simpa using hxk) ?_
      repeat' tb_rel
      obtain ⟨pk1, pk2, pk3⟩ := pl_ok i hi
      refine join_tuple (ys := placeN i) (by exact ⟨_, (NB _ (.tail _ (.tail _ (.tail _ (.tail _ hax))))).1, rfl, _, rfl⟩) (by simpa using hsx) (by have h2 : (Str.length (Str.ofString "/")) = 1 := (by decide); rw [h2]; omega) fun t9 k9 => ?_
      repeat' tb_rel
      exact ⟨⟨_, strKind_is _ _ _ _, i, t, rfl, rfl⟩, _, _, rfl, fun _ _ e => e⟩
    · intro C i t s₃ m₃ E' hi hn hm FB NB
      clear F5 N5 hR
      repeat' tb_rel
      dsimp only [qk, ek]
      refine call_up (n := 460) rfl (Nat.le_of_ble_eq_true rfl) (Nat.le_of_ble_eq_true rfl) ?_
      refine page_c Xg Tg (by exact FB.keep) (by exact let ⟨o, a, b⟩ := hlg; ⟨o, FB.keep _ _ a, b⟩) (hig.imp fun _ _ q => q.keeps FB.keep) hk hi hg hlen fun h7 tk7 t7 e7 => ?_
      dsimp only [RV]
      exact ⟨⟨i, ⟨t, rfl⟩, t7, rfl⟩, _, _, rfl, e7⟩
    · intro D2 h6 tk6 kvs vs F6 N6 hD2 hDL hDict hvl hvs hst hsm
      obtain ⟨od, hod, hodd⟩ := Heap.dictOf_iff.mp hDict
      have N7 : News g L h6 [(D2, od)] := fun p hp => by
        obtain rfl : p = (D2, od) := by simpa using hp
        refine ⟨hod, hDL, ?_⟩
        cases q : g.get? D2 with
        | none => rfl
        | some x => have := F5.keep _ _ q; dsimp only at hD2; rw [hD2] at this; cases this
      clear F5 N5 N6 hR
      dsimp only
      repeat' tb_rel
      rename Fr _ _ _ _ => F8
      rename News _ _ _ _ => N8
      with_reducible refine cut_ (fun s' => ∃ u h' tk' lm mv nm ts M, s' = { s with heap := h', toks := tk' } ∧ Fr g L h' (bd u [((Str.ofString "met"), .ref lm)]) ∧ News g L h' ((lm, listOf mv nm) :: ts) ∧ Tups ts ∧ All2 (PairIn ts) mv.toList M ∧ DState nameN (fun t => ((wl kind t).length : Int)) ties [] M) ?_ ?_
      · refine while_ (fun n s' => ∃ u h' tk' lm mv nm ls sv ns lh hv nh ts H M, s' = { s with heap := h', toks := tk' } ∧ Fr g L h' (bd u [((Str.ofString "pages"), .ref D2), ((Str.ofString "heap"), .ref lh), ((Str.ofString "seen"), .ref ls), ((Str.ofString "met"), .ref lm)]) ∧
          (D2 < lh ∧ lh < ls ∧ ls < lm) ∧ News g L h' (Led lm mv nm ls sv ns lh hv nh D2 od ts) ∧ Tups ts ∧ All2 (PairIn ts) mv.toList M ∧ StrsAre sv.toList (M.map (·.2)) ∧ All2 (PairIn ts) hv.toList H ∧
          DState nameN (fun t => ((wl kind t).length : Int)) ties H M ∧ (∃ key : Value → Int × Str, (∀ v ∈ hv, PairAt h' v (key v)) ∧ IsHeap (keyLe key) hv) ∧ n = measure nameN ties H.length (M.map (·.2)) ∧ M.length + n ≤ 14) ?_ (measure nameN ties 1 []) ?_
        · rintro n s' ⟨u, h9, tk9, lm, mv, nm, ls, sv, ns, lh, hv, nh, ts, H, M, rfl, F9, hll, N9, hT, hM, hS, hH, hD, hK, rfl, hlen9⟩
          (try clear F8 N8)
          replace hD := Hid.mk hD
          obtain ⟨key, hkey, hup⟩ := hK
          have nts : ∀ p ∈ ts, h9.get? p.1 = some p.2 := fun p hp => (N9 p (.tail _ (.tail _ (.tail _ (.tail _ hp))))).1
          obtain rfl := all2_key nts hH fun v hv => hkey v (by simpa using hv)
          have hpin := all2_mem hH
          clear nts hkey
          replace hup := Hid.mk hup
          rw [List.length_map] at hlen9
          repeat' tb_rel
          rename Fr _ _ _ _ => F10
          rename News _ _ _ _ => N10
          rename Addr => le
          refine kqd_ne (xs := hv.toList) (ys := []) (n₁ := ts) (n₂ := []) N10 (.tail _ (.tail _ (.tail _ (.head _)))) rfl rfl (pairs_dat hH) (fun p hp => .tail _ (.tail _ (.tail _ (.tail _ (.tail _ hp))))) (.head _) rfl rfl .nil (fun _ h => nomatch h) (fun d hd => ?_) (fun _ h => nomatch h) (by show 3523 + 64 < 9900; decide) ?_
          · obtain ⟨x, hx, rfl⟩ := List.mem_map.mp hd
            exact pair_ok (hD.out.named hg x hx)
          repeat' tb_rel
          rename Fr _ _ _ _ => F11
          rename News _ _ _ _ => N11
          refine ite_b (fun c => ?_) (fun c => ?_)
          · have hpos : 0 < hv.size := by
              rcases Nat.eq_zero_or_pos hv.size with hz | hz
              · have : hv.toList = [] := List.length_eq_zero_iff.mp hz
                rw [this] at c
                simp at c
              · exact hz
            have hsz : hv.size ≤ 100 := by
              have : hv.toList.length = hv.size := rfl
              unfold measure at hlen9
              omega
            repeat' tb_rel
            rename Fr _ _ _ _ => F12
            rename News _ _ _ _ => N12
            refine call_up (n := 460) rfl (Nat.le_of_ble_eq_true rfl) (Nat.le_of_ble_eq_true rfl) ?_
            refine heappop_c Xg Tg (by exact F12.keep) (by exact (N12 _ (.tail _ (.tail _ (.tail _ (.head _))))).1) (by exact (N12 _ (.tail _ (.tail _ (.tail _ (.head _))))).2.2) hpos (by omega) key (fun v hv' => (hpin v (by simpa using hv')).at fun p hp => (N12 p (.tail _ (.tail _ (.tail _ (.tail _ (.tail _ hp)))))).1) hup.out fun h13 tk13 v0 ys n13 e13 l13 p13 q13 m13 => ?_
            have N12' : News g L _ (Led lm mv nm ls sv ns lh hv nh D2 od ts) := fun p hp => N12 p (.tail _ hp)
            obtain ⟨F13, N13⟩ := behind F12 N12' (upd_h hll N12' hT) e13 l13
            clear N12' N12 F12
            have hv0 : v0 ∈ hv.toList := by
              have : v0 ∈ hv := p13.mem_iff.mp (by simp)
              simpa using this
            have hys : ∀ v ∈ ys.toList, v ∈ hv.toList := fun v h => by
              have : v ∈ hv := p13.mem_iff.mp (by simp at h; simp [h])
              simpa using this
            have hx0 := hpin v0 hv0
            have hperm : (ys.toList.map key ++ [key v0]).Perm (hv.toList.map key) := by
              have := (Array.perm_iff_toList_perm.mp p13).map key
              simpa using this
            have hmin : ∀ y ∈ hv.toList.map key, LexLe (key v0) y := fun y hy => by
              obtain ⟨u, hu, rfl⟩ := List.mem_map.mp hy
              exact m13 u (by simpa using hu)
            have hplace := hD.out.named hg (key v0) (List.mem_map_of_mem hv0)
            obtain ⟨av, t1, t2, rfl, hav⟩ := hx0
            generalize hkv : key (.ref av) = x0 at *
            obtain ⟨far, place⟩ := x0
            obtain ⟨pk, hpk, hpe⟩ := hplace
            dsimp only at hav hpe
            subst hpe
            dsimp only [RV]
            repeat' tb_rel
            refine unpackN_ F13 N13 (show IsTup _ av #[.int far t1, .str (nameN pk) t2] from ⟨_, (N13 _ (.tail _ (.tail _ (.tail _ (.tail _ hav))))).1, rfl, _, rfl⟩) rfl rfl rfl (fun h14 F14 N14 => ?_)
            (try clear F13 N13)
            repeat' tb_rel
            rename Fr _ _ _ _ => F15
            rename News _ _ _ _ => N15
            have hMl : M.length ≤ 14 := by omega
            have hsl : sv.size ≤ 14 := by
              have : sv.toList.length = (M.map (·.2)).length := hS.length
              rw [List.length_map] at this
              exact Nat.le_trans (Nat.le_of_eq this) hMl
            have hml : mv.size ≤ 14 := Nat.le_trans (Nat.le_of_eq hM.length) hMl
            refine kqd_notIn (xs := sv.toList) (n₁ := ts) (n₂ := []) N15 (.tail _ (.head _)) rfl rfl (strs_dat hS) (fun p hp => .tail _ (.tail _ (.tail _ (.tail _ hp)))) (.str _ _) (fun _ h => nomatch h) (fun d hd => ?_) ?_ (by show 3523 + 64 < 9900; decide) ?_
            · obtain ⟨x, hx, rfl⟩ := List.mem_map.mp hd
              obtain ⟨m, hm, rfl⟩ := List.mem_map.mp hx
              obtain ⟨k, hk5, e⟩ := hD.out.namedM hg m hm
              rw [e]
              exact (name_ok k hk5).1
            · exact (name_ok pk hpk).1
            repeat' tb_rel
            rename Fr _ _ _ _ => F16
            rename News _ _ _ _ => N16
            refine ite_b (fun c2 => ?_) (fun c2 => ?_)
            · have hnew : nameN pk ∉ M.map (·.2) := fun h => by
                simp only [Bool.not_eq_true', decide_eq_false_iff_not] at c2
                exact c2 (List.mem_map_of_mem h)
              repeat' tb_rel
              rename Fr _ _ _ _ => F17
              rename News _ _ _ _ => N17
              refine append_K F17 N17 (upd_s hll N17 hT) (fun h18 F18 N18 => ?_) (by rw [sizeLine_eq]; omega)
              (try clear F17 N17)
              repeat' tb_rel
              rename Fr _ _ _ _ => F19
              rename News _ _ _ _ => N19
              rename Addr => T1
              replace N19 := news_bcdea N19
              refine append_K F19 N19 (upd_m hll N19 (tups_cons rfl hT)) (fun h20 F20 N20 => ?_) (by rw [sizeLine_eq]; omega)
              (try clear F19 N19)
              repeat' tb_rel
              rename Fr _ _ _ _ => F21
              rename News _ _ _ _ => N21
              refine cut_ (fun s' => ∃ u h' tk' nm' ns' hv' nh' ts' key', s' = { s with heap := h', toks := tk' } ∧ Fr g L h' (bd u [((Str.ofString "pages"), .ref D2), ((Str.ofString "heap"), .ref lh), ((Str.ofString "seen"), .ref ls), ((Str.ofString "met"), .ref lm)]) ∧
                News g L h' (Led lm (mv.push (.ref T1)) nm' ls (sv.push (.str (nameN pk) t2)) ns' lh hv' nh' D2 od ts') ∧ Tups ts' ∧ (∀ p ∈ ts, p ∈ ts') ∧ (∃ u1 u2, (T1, ({ cls := .type "tuple", data := .seq #[.int far u1, .str (nameN pk) u2] } : Obj)) ∈ ts') ∧
                (∀ v ∈ hv'.toList, PairIn ts' v (key' v)) ∧ IsHeap (keyLe key') hv' ∧ (hv'.toList.map key').Perm (ys.toList.map key ++ (outT pk ties).map fun t => (far + ((wl kind t).length : Int), nameN t.2.1))) ?_ ?_
              · refine wpAny_For ?_
                repeat' tb_rel
                rename Fr _ _ _ _ => F22
                rename News _ _ _ _ => N22
                obtain ⟨y9, hyv, u9, rfl⟩ := stored_ints name_inj hst (by omega) hvs pk (by omega)
                refine kdg_get2 (knd := strKind _ _) N22 (.tail _ (.tail _ (.tail _ (.head _)))) hodd hsm (strKind_is _ _ _ _) (some _) hyv ?_
                dsimp only [Option.getD]
                repeat' tb_rel
                rename Fr _ _ _ _ => F23
                rename News _ _ _ _ => N23
                refine call_up (n := 460) rfl (Nat.le_of_ble_eq_true rfl) (Nat.le_of_ble_eq_true rfl) ?_
                obtain ⟨v1, v2, v3, v4⟩ := page_ok (kind := kind) (n := pk) (ties := ties) hk hg hlen
                refine values_c Xg Tg (by exact F23.keep) v1 ⟨v2⟩ ⟨v3⟩ fun h24 tk24 D5 vs5 n5 ts5 e24 a24 t24 p24 => ?_
                rw [v4] at p24
                clear v1 v2 v3 v4
                have neD := adds_ne a24 (N23 _ (.tail _ (.tail _ (.head _)))).1
                obtain ⟨F24, N24⟩ := behindL F23 N23 e24 a24
                have hT24 : Tups (ts5 ++ (T1, ({ cls := .type "tuple", data := .seq #[.int far t1, .str (nameN pk) t2] } : Obj)) :: ts) := fun p hp => by
                  rcases List.mem_append.mp hp with hp | hp
                  · exact t24 p hp
                  · exact tups_cons rfl hT p hp
                dsimp only [RV]
                repeat' tb_rel
                rename Fr _ _ _ _ => F25
                rename News _ _ _ _ => N25
                obtain ⟨ts0, hts, ht1, ht5, hT0, N25'⟩ : ∃ ts0, (∀ p ∈ ts, p ∈ ts0) ∧ ((T1, ({ cls := .type "tuple", data := .seq #[.int far t1, .str (nameN pk) t2] } : Obj)) ∈ ts0) ∧ (∀ p ∈ ts5, p ∈ ts0) ∧ Tups ts0 ∧ 
                    News g L h24 ((D5, listOf vs5 n5) :: Led lm (mv.push (.ref T1)) (nm + 1) ls (sv.push (.str (nameN pk) t2)) (ns + 1) lh ys n13 D2 od ts0) := by
                  refine ⟨_, fun p hp => List.mem_append_right _ (.tail _ hp), List.mem_append_right _ (.head _), fun p hp => List.mem_append_left _ hp, hT24, news_sub N25 ?_⟩
                  exact fun p hp => ((List.perm_append_comm_assoc [(lm, listOf (mv.push (.ref T1)) (nm + 1)), (ls, listOf (sv.push (.str (nameN pk) t2)) (ns + 1)), (lh, listOf ys n13), (D2, od)] ts5 ((T1, ({ cls := .type "tuple", data := .seq #[.int far t1, .str (nameN pk) t2] } : Obj)) :: ts)).cons (D5, listOf vs5 n5)).subset hp
                clear N25 hT24
                have p25 := p24.imp (fun _ _ q => q.mono ht5)
                clear p24 a24 t24 ht5
                replace hmin := Hid.mk hmin
                refine iter_list (items := vs5) (fun i m news => ∃ u hv nh ts' key', m = bd u [((Str.ofString "pages"), .ref D2), ((Str.ofString "heap"), .ref lh), ((Str.ofString "seen"), .ref ls), ((Str.ofString "met"), .ref lm), ((Str.ofString "far"), .int far t1), ((Str.ofString "place"), .str (nameN pk) t2)] ∧
                    news = (D5, listOf vs5 n5) :: Led lm (mv.push (.ref T1)) (nm + 1) ls (sv.push (.str (nameN pk) t2)) (ns + 1) lh hv nh D2 od ts' ∧ Tups ts' ∧ (∀ p ∈ ts0, p ∈ ts') ∧ 
                    (∀ v ∈ hv.toList, PairIn ts' v (key' v)) ∧ IsHeap (keyLe key') hv ∧ (hv.toList.map key').Perm (ys.toList.map key ++ ((outT pk ties).map fun t => (far + ((wl kind t).length : Int), nameN t.2.1)).take i))
                  rfl F25 N25' (fun i m news h ⟨_, _, _, _, _, _, e, _⟩ _ N => by subst e; exact list_of N (.head _))
                  ⟨_, ys, n13, ts0, key, (bd_eq (bdOk_all (by exact ⟨rfl, rfl, rfl, rfl, rfl, rfl, trivial⟩))).symm, rfl, hT0, (fun _ h => h), (fun v hv => (hpin v (hys v hv)).mono hts), q13, by simp⟩ ?_ ?_
                · (try clear F25 N25' F23 N23 F22 N22 F21 N21)
                  rintro i v m news h tk I io hI hv' ⟨u5, hv5, nh5, ts6, key6, rfl, rfl, hT6, hs6, hp6, q6, perm6⟩ F26 N26 hn
                  obtain ⟨x, hx, a9, t3, t4, rfl, ha9⟩ := p25.get (by simpa using hv')
                  rw [List.getElem?_map] at hx
                  obtain ⟨tt, htt, rfl⟩ := Option.map_eq_some_iff.mp hx
                  obtain ⟨htm, htb⟩ := List.mem_filter.mp (List.mem_of_getElem? htt)
                  have hgt := hg tt htm
                  have hgo := go_ok0 pk hpk tt.2.1 hgt.2.1 tt.2.2 hgt.2.2
                  have ett : (pk, tt.2.1, tt.2.2) = tt := by
                    have : tt.1 = pk := of_decide_eq_true htb
                    rw [← this]
                  rw [ett] at hgo
                  obtain ⟨go1, go2, go3, go4, go5, go6, go7, go8, go9, go10⟩ := hgo
                  have hgo := Hid.mk (And.intro go3 (And.intro go4 (And.intro go5 (And.intro go6 (And.intro go7 (And.intro go8 (And.intro go9 go10)))))))
                  clear go3 go4 go5 go6 go7 go8 go9 go10 hgt ett htb hx
                  dsimp only at ha9
                  replace perm6 := Hid.mk perm6
                  replace htt := Hid.mk htt
                  repeat' tb_rel
                  refine unpackN_ F26 N26 (show IsTup _ a9 #[.int _ t3, .str (lk tt) t4] from ⟨_, (N26 _ (.tail _ (.tail _ (.tail _ (.tail _ (.tail _ (.tail _ (hs6 _ ha9)))))))).1, rfl, _, rfl⟩) rfl rfl rfl (fun h27 F27 N27 => ?_)
                  (try clear F26 N26)
                  repeat' tb_rel
                  rename Fr _ _ _ _ => F28
                  rename News _ _ _ _ => N28
                  refine call_up (n := 480) rfl (Nat.le_of_ble_eq_true rfl) (Nat.le_of_ble_eq_true rfl) ?_
                  refine dirname_c Xg Tg (by exact F28.keep) (Nat.le_trans (name_ok pk hpk).2 (by decide)) fun h29 tk29 t29 e29 => ?_
                  obtain ⟨F29, N29⟩ := behind0 F28 N28 e29
                  dsimp only [RV]
                  repeat' tb_rel
                  rename Fr _ _ _ _ => F30
                  rename News _ _ _ _ => N30
                  refine call_up (n := 480) rfl (Nat.le_of_ble_eq_true rfl) (Nat.le_of_ble_eq_true rfl) ?_
                  refine join_c Xg Tg (by exact F30.keep) go1 go2 fun h31 tk31 t31 e31 => ?_
                  obtain ⟨F31, N31⟩ := behind0 F30 N30 e31
                  dsimp only [RV]
                  repeat' tb_rel
                  rename Fr _ _ _ _ => F32
                  rename News _ _ _ _ => N32
                  refine call_up (n := 460) rfl (Nat.le_of_ble_eq_true rfl) (Nat.le_of_ble_eq_true rfl) ?_
                  refine normpath_c Xg Tg (by exact F32.keep) hgo.out.1 hgo.out.2.1 hgo.out.2.2.1 ⟨hgo.out.2.2.2.1⟩ ⟨hgo.out.2.2.2.2.1⟩ ⟨hgo.out.2.2.2.2.2.1⟩ ⟨hgo.out.2.2.2.2.2.2.1⟩ fun h33 tk33 t33 e33 => ?_
                  obtain ⟨F33, N33⟩ := behind0 F32 N32 e33
                  rw [hgo.out.2.2.2.2.2.2.2]
                  dsimp only [RV]
                  repeat' tb_rel
                  rename Fr _ _ _ _ => F34
                  rename News _ _ _ _ => N34
                  rename Addr => T2
                  rename I < T2 ∧ _ => l34
                  obtain ⟨oT2, hkx, hcl2, N34⟩ : ∃ oT2, PairIn ((T2, oT2) :: ts6) (.ref T2) (far + ((wl kind tt).length : Int), nameN tt.2.1) ∧ oT2.cls = .type "tuple" ∧ News g L _ ((I, io) :: (D5, listOf vs5 n5) :: Led lm (mv.push (.ref T1)) (nm + 1) ls (sv.push (.str (nameN pk) t2)) (ns + 1) lh hv5 nh5 D2 od ((T2, oT2) :: ts6)) :=
                    ⟨_, ⟨T2, _, _, rfl, .head _⟩, rfl, news_led N34⟩
                  obtain ⟨key7, k71, k72, k73, k74, k75⟩ := key_ext (key := key6) (hv := hv5) (fun v hv => ((hp6 v (by simpa using hv)).mono fun p hp => List.Mem.tail _ hp).at fun p hp => (N34 p (.tail _ (.tail _ (.tail _ (.tail _ (.tail _ (.tail _ hp))))))).1) (hkx.at fun p hp => (N34 p (.tail _ (.tail _ (.tail _ (.tail _ (.tail _ (.tail _ hp))))))).1) q6
                  have hsz5 : hv5.size ≤ 100 := by
                    have z1 := perm6.out.length_eq
                    have z2 := hperm.length_eq
                    have z3 : (outT pk ties).length ≤ ties.length := List.length_filter_le ..
                    unfold measure at hlen9
                    simp only [List.length_append, List.length_map, List.length_singleton, List.length_take, Array.length_toList] at z1 z2 hlen9
                    omega
                  refine call_up (n := 460) rfl (Nat.le_of_ble_eq_true rfl) (Nat.le_of_ble_eq_true rfl) ?_
                  refine heappush_c Xg Tg (by exact F34.keep) (by exact (N34 _ (.tail _ (.tail _ (.tail _ (.tail _ (.head _)))))).1) (by exact (N34 _ (.tail _ (.tail _ (.tail _ (.tail _ (.head _)))))).2.2) (by omega) key7 k72 k73 k75 fun h35 tk35 ys35 n35 e35 l35 p35 q35 => ?_
                  obtain ⟨F35, N35⟩ := behind F34 N34 (.tail (hn _ (.tail _ (.tail _ (.tail _ (.head _))))).symm (.tail (neD _ (.head _)) (upd_h hll (news_sub N34 fun p hp => .tail _ (.tail _ hp)) (tups_cons hcl2 hT6)))) e35 l35
                  (try clear F34 N34)
                  dsimp only [RV]
                  repeat' tb_rel
                  rename Fr _ _ _ _ => F36
                  rename News _ _ _ _ => N36
                  dsimp only
                  have hmem35 : ∀ v ∈ ys35.toList, v ∈ hv5 ∨ v = .ref T2 := fun v hv => Array.mem_push.mp (p35.mem_iff.mp (by simpa using hv))
                  refine ⟨_, _, _, _, rfl, fr_bd F36 [((Str.ofString "pages"), .ref D2), ((Str.ofString "heap"), .ref lh), ((Str.ofString "seen"), .ref ls), ((Str.ofString "met"), .ref lm), ((Str.ofString "far"), .int far t1), ((Str.ofString "place"), .str (nameN pk) t2)] ⟨rfl, rfl, rfl, rfl, rfl, rfl, trivial⟩, N36, ?_, ⟨_, ys35, n35, _, key7, rfl, rfl, tups_cons hcl2 hT6, fun p hp => .tail _ (hs6 p hp), ?_, q35, ?_⟩⟩
                  · intro p hp
                    rcases List.mem_cons.mp hp with rfl | hp
                    · exact hn (D5, _) (.head _)
                    rcases List.mem_cons.mp hp with rfl | hp
                    · exact hn (lm, _) (.tail _ (.head _))
                    rcases List.mem_cons.mp hp with rfl | hp
                    · exact hn (ls, _) (.tail _ (.tail _ (.head _)))
                    rcases List.mem_cons.mp hp with rfl | hp
                    · exact hn (lh, listOf hv5 nh5) (.tail _ (.tail _ (.tail _ (.head _))))
                    rcases List.mem_cons.mp hp with rfl | hp
                    · exact hn (D2, _) (.tail _ (.tail _ (.tail _ (.tail _ (.head _)))))
                    rcases List.mem_cons.mp hp with rfl | hp
                    · exact Nat.ne_of_gt l34.1
                    · exact hn p (.tail _ (.tail _ (.tail _ (.tail _ (.tail _ hp)))))
                  · intro v hv
                    rcases hmem35 v hv with h | rfl
                    · rw [k71 v h]
                      exact (hp6 v (by simpa using h)).mono fun p hp => .tail _ hp
                    · rw [k74]
                      exact hkx
                  · have z1 : (ys35.toList.map key7).Perm (hv5.toList.map key6 ++ [(far + ((wl kind tt).length : Int), nameN tt.2.1)]) := by
                      have := (Array.perm_iff_toList_perm.mp p35).map key7
                      have e7 : hv5.toList.map key7 = hv5.toList.map key6 := List.map_congr_left fun v hv => k71 v (by simpa using hv)
                      rw [Array.toList_push, List.map_append, List.map_cons, List.map_nil, k74, e7] at this
                      exact this
                    rw [List.take_add_one, List.getElem?_map, htt.out]
                    rw [← List.append_assoc]
                    exact z1.trans (perm6.out.append_right _)
                · rintro m news h tk ⟨u5, hv5, nh5, ts6, key6, rfl, rfl, hT6, hs6, hp6, q6, perm6⟩ F26 N26
                  refine ⟨rfl, _, _, _, _, _, hv5, nh5, ts6, key6, rfl, fr_bd F26 [((Str.ofString "pages"), .ref D2), ((Str.ofString "heap"), .ref lh), ((Str.ofString "seen"), .ref ls), ((Str.ofString "met"), .ref lm)] ⟨rfl, rfl, rfl, rfl, trivial⟩, news_sub N26 (fun p hp => .tail _ hp), hT6, (fun p hp => hs6 p (hts p hp)), ⟨_, _, hs6 _ ht1⟩, hp6, q6, ?_⟩
                  have e : vs5.size = ((outT pk ties).map fun t => (far + ((wl kind t).length : Int), nameN t.2.1)).length := by
                    have := p25.length
                    simp only [List.length_map] at this ⊢
                    exact this
                  rw [e, List.take_length] at perm6
                  exact perm6
              · rintro s' ⟨u5, h5, tk5, nm', ns', hv', nh', ts', key', rfl, F6, N6, hT6, hts6, ⟨u1, u2, hT1⟩, hp6, q6, perm6⟩
                (try clear F21 N21)
                have hw : ∀ t ∈ ties, (0 : Int) < ((wl kind t).length : Int) := fun t ht => by
                  have h1 := (w_ok hk (hg t ht)).ge
                  have h2 : (wl kind t).length = (wr kind (lk t)).length := rfl
                  omega
                have hO : ∀ y, y ∈ ((outT pk ties).map fun t => (far + ((wl kind t).length : Int), nameN t.2.1)) ↔ Step nameN (fun t => ((wl kind t).length : Int)) ties (far, nameN pk) y := fun y => by
                  constructor
                  · intro h
                    obtain ⟨t, ht, rfl⟩ := List.mem_map.mp h
                    obtain ⟨h1, h2⟩ := List.mem_filter.mp ht
                    exact ⟨t, h1, by rw [of_decide_eq_true h2], rfl⟩
                  · rintro ⟨t, ht, e, rfl⟩
                    refine List.mem_map.mpr ⟨t, List.mem_filter.mpr ⟨ht, decide_eq_true ?_⟩, rfl⟩
                    exact name_inj _ (hg t ht).1 _ hpk e.symm
                have DM := (hD.out.meet hw hperm hmin hnew hO).perm perm6 (by simp)
                have hln : (outT pk ties).length = (ties.filter fun t => decide (nameN t.1 = nameN pk)).length := by
                  unfold outT
                  congr 1
                  refine List.filter_congr fun t ht => ?_
                  refine decide_eq_decide.mpr ⟨fun e => by rw [e], fun e => name_inj _ (hg t ht).1 _ hpk e⟩
                have hms := measure_meet (ties := ties) (nm := nameN) (M.map (·.2)) (nameN pk) hnew
                have hl1 := hperm.length_eq
                have hl2 := perm6.length_eq
                simp only [List.length_append, List.length_map, List.length_singleton] at hl1 hl2
                replace DM := Hid.mk DM
                clear perm6 hO
                repeat' tb_rel
                rename Fr _ _ _ _ => F7
                rename News _ _ _ _ => N7
                dsimp only
                refine ⟨_, ?_, _, _, _, lm, _, nm', ls, _, ns', lh, hv', nh', ts', hv'.toList.map key', M ++ [(far, nameN pk)], rfl, fr_bd F7 [((Str.ofString "pages"), .ref D2), ((Str.ofString "heap"), .ref lh), ((Str.ofString "seen"), .ref ls), ((Str.ofString "met"), .ref lm)] ⟨rfl, rfl, rfl, rfl, trivial⟩, hll, N7, hT6, ?_, ?_, all2_of hp6, DM.out, ⟨key', fun v hv => (hp6 v (by simpa using hv)).at fun p hp => (N7 p (.tail _ (.tail _ (.tail _ (.tail _ hp))))).1, q6⟩, rfl, ?_⟩
                · unfold measure
                  rw [List.map_append, List.map_cons, List.map_nil]
                  simp only [List.length_map]
                  omega
                · rw [Array.toList_push]
                  exact (hM.imp fun _ _ q => q.mono hts6).append ⟨⟨T1, u1, u2, rfl, hT1⟩, trivial⟩
                · rw [Array.toList_push, List.map_append]
                  exact hS.append' (.cons _ _ .nil)
                · unfold measure at hlen9 ⊢
                  rw [List.map_append, List.map_cons, List.map_nil]
                  simp only [List.length_append, List.length_map, List.length_singleton] at hlen9 ⊢
                  omega
            · have hold : nameN pk ∈ M.map (·.2) := by
                have c3 : Dat.str (nameN pk) ∈ (M.map (·.2)).map Dat.str := by
                  simpa only [Bool.not_eq_false', decide_eq_true_eq] using c2
                obtain ⟨y, hy, e⟩ := List.mem_map.mp c3
                cases e
                exact hy
              repeat' tb_rel
              rename Fr _ _ _ _ => F17
              rename News _ _ _ _ => N17
              dsimp only
              refine ⟨_, ?_, _, _, _, lm, mv, nm, ls, sv, ns, lh, ys, n13, ts, ys.toList.map key, M, rfl, fr_bd F17 [((Str.ofString "pages"), .ref D2), ((Str.ofString "heap"), .ref lh), ((Str.ofString "seen"), .ref ls), ((Str.ofString "met"), .ref lm)] ⟨rfl, rfl, rfl, rfl, trivial⟩, hll, N17, hT, hM, hS, all2_of fun v hv => hpin v (hys v hv), hD.out.pass hperm hold, ⟨key, fun v hv => (hpin v (hys v (by simpa using hv))).at fun p hp => (N17 p (.tail _ (.tail _ (.tail _ (.tail _ hp))))).1, q13⟩, rfl, ?_⟩
              · have := hperm.length_eq
                unfold measure
                simp only [List.length_append, List.length_map, List.length_singleton] at this ⊢
                omega
              · have := hperm.length_eq
                unfold measure at hlen9 ⊢
                simp only [List.length_append, List.length_map, List.length_singleton] at this hlen9 ⊢
                omega
          · have hz : hv.toList = [] := by
              simpa using c
            have hDz := hD.out
            rw [hz, List.map_nil] at hDz
            exact ⟨by first | rfl | trivial, _, _, _, lm, mv, nm, ts, M, rfl, fr_bd F11 [((Str.ofString "met"), .ref lm)] ⟨rfl, trivial⟩, news_sub N11 (fun p hp => by
              rcases List.mem_cons.mp hp with rfl | hp
              · exact .tail _ (.head _)
              · exact .tail _ (.tail _ (.tail _ (.tail _ (.tail _ hp))))), hT, hM, hDz⟩
        · rename_i T0 hA l0 lh hB l2 hC tkA ls hE l3 hG lm hJ l4 hK
          have e0 : (Str.ofString "/i") = nameN 0 := by decide +kernel
          rw [e0] at N8
          obtain ⟨oT, hTin, hcl, N9⟩ : ∃ oT, PairIn [(T0, oT)] (.ref T0) (0, nameN 0) ∧ oT.cls = .type "tuple" ∧ News g L hK (Led lm #[] 0 ls #[] 0 lh #[.ref T0] 0 D2 od [(T0, oT)]) := ⟨_, ⟨T0, _, _, rfl, .head _⟩, rfl, news_abced N8⟩
          refine ⟨_, hK, _, lm, #[], 0, ls, #[], 0, lh, #[.ref T0], 0, [(T0, oT)], [(0, nameN 0)], [], rfl, fr_bd F8 [((Str.ofString "pages"), .ref D2), ((Str.ofString "heap"), .ref lh), ((Str.ofString "seen"), .ref ls), ((Str.ofString "met"), .ref lm)] ⟨rfl, rfl, rfl, rfl, trivial⟩, ⟨l2.2, l3.1, l4.1⟩, N9, ?_, trivial, .nil, ⟨hTin, trivial⟩, DState.init, ⟨fun _ => (0, nameN 0), fun v hv => ?_, fun i x y hi _ hx hy => lex_irrefl (0, nameN 0)⟩, rfl, ?_⟩
          · intro p hp
            obtain rfl : p = _ := List.mem_singleton.mp hp
            exact hcl
          · obtain rfl : v = .ref T0 := by simpa using hv
            exact hTin.at fun p hp => (N9 p (.tail _ (.tail _ (.tail _ (.tail _ hp))))).1
          · have := List.length_filter_le (fun t : Tie => !(([] : List Str).contains (nameN t.1))) ties
            unfold measure
            simp only [List.map_nil, List.length_cons, List.length_nil] at this ⊢
            omega
      · rintro s' ⟨u, h2, tk2, lm, mv, nm, ts, M, rfl, F3, N3, hT, hM, hDz⟩
        replace hDz := Hid.mk hDz
        (try clear F8 N8)
        repeat' tb_rel
        rename Fr _ _ _ _ => F4
        rename News _ _ _ _ => N4
        dsimp only
        exact ret _ _ lm mv nm ts M (fun b x hx => F4.keep _ _ (hg1 b x hx (by simp))) (adds_of N4 (fun p hp => hp) hg1) hT hM hDz.out
end Mine
end

section
open PySem PySem.W PyProof.Rows PySem.Calls
set_option maxRecDepth 100000
set_option maxHeartbeats 1000000
namespace Mine
local macro_rules | `(tactic| tb_rel) => `(tactic| first | (goal_has PySem.W.Frag.In; (fail_if_success (with_reducible show wpAny _ _ (call (Value.ref _) _ _) _ _ _)); walk1) | (goal_lacks PySem.W.Frag.In; (with_reducible show wpAny _ _ _ _ _ _); (fail_if_success (with_reducible show wpAny _ _ (execs (PySem.Stmt.While _ _ _ _ :: _) _) _ _ _)); (fail_if_success (with_reducible show wpAny _ _ (execs (PySem.Stmt.For _ _ _ _ _ :: _) _) _ _ _)); (fail_if_success (with_reducible show wpAny _ _ (call (Value.ref _) _ _) _ _ _)); (fail_if_success (with_reducible show wpAny _ _ (pyIter _) _ _ _)); (fail_if_success (with_reducible show wpAny _ _ (call (Value.builtin "str.split") _ _) _ _ _)); (fail_if_success (with_reducible show wpAny _ _ (call (Value.ref _) _ _) _ _ _)); (fail_if_success (with_reducible show wpAny _ _ (exec (PySem.Stmt.Try _ _ _ _ _) _) _ _ _)); (fail_if_success (with_reducible show wpAny _ _ (subscriptTail _ _ (Value.ref _) _) _ _ _)); (fail_if_success (with_reducible show wpAny _ _ (call (Value.builtin "str.join") _ _) _ _ _)); (fail_if_success (with_reducible show wpAny _ _ (eval (PySem.Expr.ListComp _ _ _ _) _) _ _ _)); (fail_if_success (with_reducible show wpAny _ _ (call (Value.builtin "sum") _ _) _ _ _)); (fail_if_success (with_reducible show wpAny _ _ (call (Value.builtin "sorted") _ _) _ _ _)); (fail_if_success (with_reducible show wpAny _ _ (call (Value.builtin "dict.get") _ _) _ _ _)); (fail_if_success (with_reducible show wpAny _ _ (getMethod (Value.ref _) (PySem.Str.ofString "get") _) _ _ _)); (fail_if_success (with_reducible show wpAny _ _ (compareOp CmpOp.In _ _) _ _ _)); (fail_if_success (with_reducible show wpAny _ _ (compareOp CmpOp.NotIn _ _) _ _ _)); (fail_if_success (with_reducible show wpAny _ _ (call (Value.builtin "list.append") _ _) _ _ _)); (fail_if_success (with_reducible show wpAny _ _ (call (Value.builtin "len") [Value.ref _]) _ _ _)); (fail_if_success (with_reducible show wpAny _ _ (setItem (Value.ref _) _ _) _ _ _)); first | walk1 | (dsimp only; walk1)) | ((fail_if_success (with_reducible show wpAny _ _ _ _ _ _)); (with_reducible refine Mine.ite_t (by with_reducible first | rfl | exact True.intro) ?_)) | ((fail_if_success (with_reducible show wpAny _ _ _ _ _ _)); (with_reducible refine Mine.ite_f (by decide) ?_)) | fail "no step")
local macro_rules | `(tactic| tb_start) => `(tactic| first | (goal_has PySem.W.Frag.In; (fail_if_success (with_reducible show wpAny _ _ (call (Value.ref _) _ _) _ _ _)); walk1) | (goal_lacks PySem.W.Frag.In; (with_reducible show wpAny _ _ _ _ _ _); (fail_if_success (with_reducible show wpAny _ _ (execs (PySem.Stmt.While _ _ _ _ :: _) _) _ _ _)); (fail_if_success (with_reducible show wpAny _ _ (execs (PySem.Stmt.For _ _ _ _ _ :: _) _) _ _ _)); (fail_if_success (with_reducible show wpAny _ _ (execs (PySem.Stmt.If _ _ _ _ :: _) _) _ _ _)); (fail_if_success (with_reducible show wpAny _ _ (call (Value.ref _) _ _) _ _ _)); (fail_if_success (with_reducible show wpAny _ _ (pyIter _) _ _ _)); (fail_if_success (with_reducible show wpAny _ _ (call (Value.builtin "str.split") _ _) _ _ _)); (fail_if_success (with_reducible show wpAny _ _ (call (Value.ref _) _ _) _ _ _)); (fail_if_success (with_reducible show wpAny _ _ (exec (PySem.Stmt.Try _ _ _ _ _) _) _ _ _)); (fail_if_success (with_reducible show wpAny _ _ (subscriptTail _ _ (Value.ref _) _) _ _ _)); (fail_if_success (with_reducible show wpAny _ _ (call (Value.builtin "str.join") _ _) _ _ _)); (fail_if_success (with_reducible show wpAny _ _ (eval (PySem.Expr.ListComp _ _ _ _) _) _ _ _)); (fail_if_success (with_reducible show wpAny _ _ (call (Value.builtin "sum") _ _) _ _ _)); (fail_if_success (with_reducible show wpAny _ _ (call (Value.builtin "sorted") _ _) _ _ _)); (fail_if_success (with_reducible show wpAny _ _ (call (Value.builtin "dict.get") _ _) _ _ _)); (fail_if_success (with_reducible show wpAny _ _ (getMethod (Value.ref _) (PySem.Str.ofString "get") _) _ _ _)); (fail_if_success (with_reducible show wpAny _ _ (compareOp CmpOp.In _ _) _ _ _)); (fail_if_success (with_reducible show wpAny _ _ (compareOp CmpOp.NotIn _ _) _ _ _)); (fail_if_success (with_reducible show wpAny _ _ (call (Value.builtin "list.append") _ _) _ _ _)); (fail_if_success (with_reducible show wpAny _ _ (call (Value.builtin "len") [Value.ref _]) _ _ _)); (fail_if_success (with_reducible show wpAny _ _ (setItem (Value.ref _) _ _) _ _ _)); first | walk1 | (dsimp only; walk1)) | ((fail_if_success (with_reducible show wpAny _ _ _ _ _ _)); (with_reducible refine Mine.ite_t (by with_reducible first | rfl | exact True.intro) ?_)) | ((fail_if_success (with_reducible show wpAny _ _ _ _ _ _)); (with_reducible refine Mine.ite_f (by decide) ?_)) | fail "no step")
def lenS (kind c : Nat) : Nat := match (tableS kind).find? (fun p => decide (p.1 = ⟨#[c]⟩)) with | some p => p.2.length | none => 1
def signsL : List Nat := [47, 105, 97, 38, 60, 34, 62, 9, 46]
theorem links_signs : links.all (fun l => l.cps.toList.all fun c => signsL.contains c) = true := by decide +kernel
theorem lens_ok : ∀ kind, kind < 3 → ∀ c ∈ signsL, lenS kind c = tabF kind c := by decide +kernel
theorem tabF_all : ∀ kind, kind < 3 → ∀ p ∈ tabK kind, p.2.length ≤ 100 := by decide +kernel
theorem tabF_le (kind c : Nat) : tabF kind c ≤ 100 := by
  have key : ∀ p ∈ tabK kind, p.2.length ≤ 100 := by
    by_cases h0 : kind = 0
    · subst h0; exact tabF_all 0 (by decide)
    · by_cases h1 : kind = 1
      · subst h1; exact tabF_all 1 (by decide)
      · have : tabK kind = tabK 2 := by unfold tabK; rw [if_neg h0, if_neg h1]; rfl
        rw [this]; exact tabF_all 2 (by decide)
  unfold tabF
  split
  · rename_i p h
    exact key p (List.mem_of_find?_eq_some h)
  · decide
theorem find_all2 {k : Str} : ∀ {kvs : List (Str × Value)} {ps : List (Str × Str)}, All2 (fun (kv : Str × Value) (p : Str × Str) => kv.1 = p.1 ∧ ∃ t, kv.2 = .str p.2 t) kvs ps →
    (ps.find? (fun p => decide (p.1 = k)) = none ∧ valueAt kvs k = none) ∨ ∃ p t, ps.find? (fun p => decide (p.1 = k)) = some p ∧ valueAt kvs k = some (.str p.2 t)
  | [], [], _ => .inl ⟨rfl, rfl⟩
  | kv :: kvs, p :: ps, h => by
    obtain ⟨⟨e1, t, e2⟩, hr⟩ := h
    unfold valueAt
    rw [List.find?_cons, List.find?_cons, e1]
    by_cases e : p.1 = k
    · rw [decide_eq_true e]
      exact .inr ⟨p, t, rfl, by simp [e2]⟩
    · rw [decide_eq_false e]
      exact find_all2 hr
  | [], _ :: _, h => h.elim
  | _ :: _, [], h => h.elim
theorem table_get {kind : Nat} {kvs : List (Str × Value)} {t : Tie} {j c : Nat} {u : Tok} (hk : kind < 3) (hkv : All2 (fun (kv : Str × Value) (p : Str × Str) => kv.1 = p.1 ∧ ∃ t, kv.2 = .str p.2 t) kvs (tableS kind)) (hg : Good t) (hc : (lk t).cps[j]? = some c) :
    ∃ z tz, (valueAt kvs ⟨#[c]⟩).getD (.str ⟨#[c]⟩ u) = .str z tz ∧ z.length = tabF kind c := by
  have hcs : c ∈ signsL := by
    have h1 := List.all_eq_true.mp links_signs _ (lk_mem hg)
    have h2 := List.all_eq_true.mp h1 c (by rw [← Array.getElem?_toList] at hc; exact List.mem_of_getElem? hc)
    simpa using h2
  have hl := lens_ok kind hk c hcs
  unfold lenS at hl
  rcases find_all2 (k := ⟨#[c]⟩) hkv with ⟨e1, e2⟩ | ⟨p, t, e1, e2⟩
  · rw [e1] at hl
    rw [e2]
    exact ⟨_, _, rfl, hl⟩
  · rw [e1] at hl
    rw [e2]
    exact ⟨_, _, rfl, hl⟩
theorem sum_cast {f : Nat → Nat} : ∀ (l : List Nat), (((l.map f).sum : Nat) : Int) = (l.map fun c => ((f c : Nat) : Int)).sum
  | [] => rfl
  | a :: l => by
    rw [List.map_cons, List.sum_cons, List.map_cons, List.sum_cons, ← sum_cast l]
    omega
theorem ints_of {f : Nat → Int} : ∀ {ys : List Value} {cs : List Nat}, All2 (fun v (c : Nat) => ∃ tk, v = .int (f c) tk) ys cs → IntsAre ys (cs.map f)
  | [], [], _ => .nil
  | _ :: _, _ :: _, ⟨⟨tk, e⟩, r⟩ => by subst e; exact .cons _ _ (ints_of r)
  | [], _ :: _, h => h.elim
  | _ :: _, [], h => h.elim
theorem range_ok : ∀ n : Nat, n < 14 → Builtin.Range.small 0 (n : Int) 1 = true ∧ Builtin.Range.rangeSize 0 (n : Int) 1 = (n : Int) := by decide +kernel
theorem adds_ne2 {h h' : Heap} {ts : List (Addr × Obj)} {c : Addr} {o : Obj} (ad : Adds h h' ts) (hc : h.get? c = some o) : ∀ p ∈ ts, p.1 ≠ c := fun p hp e => by
  have := (ad p hp).2
  rw [e, hc] at this; cases this
theorem news_mv9 {g h : Heap} {L : Addr} {t a b c d e f i j k : Addr × Obj} {r : List (Addr × Obj)} (N : News g L h (t :: a :: b :: c :: d :: e :: f :: i :: j :: k :: r)) : News g L h (a :: b :: c :: d :: e :: f :: i :: j :: k :: t :: r) := news_sub N fun p hp => (List.perm_middle (l₁ := [a, b, c, d, e, f, i, j, k]) (a := t) (l₂ := r)).subset hp
theorem due_c {w : World} {s : Shared} {h₀ : Heap} {mean : ExcName → Option Value} {mg mb : Str → Option Value} (X : (hd.heap_39 w.params).In h₀) (T : TT mean mg mb h₀) (st : h₀.StaysIn s.heap) {lt Dt : Addr} {items : Array Value} {ties : List Tie} {kind : Nat} {R : Result → Shared → Prop} (hl : s.heap.IsList lt items) (hi : All2 (TieAt s.heap) items.toList ties) (hk : kind < 3)
  (hg : ∀ t ∈ ties, Good t) (hlen : ties.length ≤ 13) (hfirst : (0, 1, 0) ∈ ties) (hT : TableAt w s.heap Dt (tableS kind)) (hDt : (Dt == sysModules) = false)
  (ret : ∀ h' tk' D ov n ts ys, Ext s.heap h' → Adds s.heap h' ((D, listOf (List.toArray ov) n) :: ts) → Tups ts → All2 (PairIn ts) ov ys → ys.Pairwise (fun a b => lexLt a b = true) → 
    (∀ x, x ∈ ys ↔ ∃ k, k < 5 ∧ rounds (fun t => ((wl kind t).length : Int)) ties 4 k = some x.1 ∧ x.2 = nameN k) → R (.ok (.ret (.ref D))) { s with heap := h', toks := tk' }) :
  codeAny (MM w) (A0 440) (.call (.ref 251) ⟨[.ref lt, .ref Dt], []⟩) R s := by
  obtain ⟨ol, hol, hol1, hol2⟩ := hl
  refine' enterC (binds := [((Str.ofString "ties"), .ref lt), ((Str.ofString "table"), .ref Dt)]) X T st ?a2 ?a3 ?a4 ?a5 ?a6 ?a7 ?a8 ?a9 ?a10 ?a11
  case a2 => k_is
  case a3 => k_is
  case a4 => decide
  case a5 => exact BindsTo.of_eq rfl
  case a6 => exact kindsX rfl
  case a7 => decide
  case a9 => exact rfl
  case a10 => exact rfl
  case a11 => exact rfl
  intro g L h₁ tk₁ cells Xg Tg hg1 hg2 F N Y
  obtain ⟨o1, o2, o3, rfl, d1, d2, d3⟩ := CellsAre.three Y
  obtain ⟨kvs, hkd, hkv⟩ := hT
  obtain ⟨odt, hodt, hodd⟩ := Heap.dictOf_iff.mp hkd
  have hodg := hg1 _ _ hodt (by simp)
  have hlg : g.IsList lt items := ⟨_, hg1 _ _ hol (by simp), hol1, hol2⟩
  have hig : All2 (TieAt g) items.toList ties := hi.imp fun _ _ q => q.keeps fun b o e => hg1 b o e (by simp)
  replace d1 : o1.data = .cell none := d1.trans (by with_unfolding_all rfl)
  replace d2 : o2.data = .cell none := d2.trans (by with_unfolding_all rfl)
  replace d3 : o3.data = .cell (some (.ref Dt)) := d3.trans (by with_unfolding_all rfl)
  have F' : Fr g L h₁ (fun z => if z = (Str.ofString "ties") then some (.ref lt) else none) := by with_unfolding_all exact F
  replace F := F'
  clear Y F'
  repeat' tb_rel
  rename Fr _ _ _ _ => F1
  rename News _ _ _ _ => N1
  refine call_up (n := 480) rfl (Nat.le_of_ble_eq_true rfl) (Nat.le_of_ble_eq_true rfl) ?_
  refine places_c Xg Tg (by exact F1.keep) fun h2 tk2 D vp tp e2 a2 t2 p2 => ?_
  obtain ⟨F2, N2⟩ := behindL F1 N1 e2 a2
  have ne1 := adds_ne2 a2 (show h₁.get? (L + 1 + 1) = some o2 from (N1 _ (.tail _ (.head _))).1)
  have ne6 := adds_ne2 a2 (show h₁.get? (L + 1 + 1 + 1) = some o1 from (N1 _ (.head _)).1)
  replace N2 := news_sub N2 (b := (L + 1 + 1 + 1, o1) :: (L + 1 + 1, o2) :: (L + 1, o3) :: (D, listOf (List.toArray vp) 0) :: tp) (fun p hp => (List.perm_append_comm (l₁ := [(L + 1 + 1 + 1, o1), (L + 1 + 1, o2), (L + 1, o3)]) (l₂ := (D, listOf (List.toArray vp) 0) :: tp)).subset hp)
  dsimp only [RV]
  have ne2 : @Ne Nat (L + 1 + 1 + 1) (L + 1 + 1) := Nat.ne_of_gt (Nat.lt_succ_self _)
  have ne3 : @Ne Nat (L + 1) (L + 1 + 1) := Nat.ne_of_lt (Nat.lt_succ_self _)
  refine storeX_C F2 N2 rfl (.tail ne2 (.head ?_)) d2 (fun h3 o2' F3 N3 d2' => ?_)
  · intro p hp
    rcases List.mem_cons.mp hp with rfl | hp
    · exact ne3
    · exact ne1 p hp
  (try clear F2 N2 F1 N1)
  clear o2 d2
  repeat' tb_rel
  rename Fr _ _ _ _ => F4
  rename News _ _ _ _ => N4
  rename Addr => lz
  have nz : ∀ p ∈ (L + 1 + 1 + 1, o1) :: (L + 1 + 1, o2') :: (L + 1, o3) :: (D, listOf (List.toArray vp) 0) :: tp, p.1 ≠ lz := by
    rename _ ∧ _ => l1
    intro p hp
    rcases List.mem_cons.mp hp with rfl | hp
    · exact Nat.ne_of_lt l1.1
    rcases List.mem_cons.mp hp with rfl | hp
    · exact Nat.ne_of_lt l1.2.1
    rcases List.mem_cons.mp hp with rfl | hp
    · exact Nat.ne_of_lt l1.2.2.1
    rcases List.mem_cons.mp hp with rfl | hp
    · exact Nat.ne_of_lt l1.2.2.2.1
    · exact allLt_mem l1.2.2.2.2 p hp
  refine cut_ (fun s' => ∃ u h' tk' nz' sz, s' = { s with heap := h', toks := tk' } ∧ Fr g L h' (bd u [((Str.ofString "ties"), .ref lt), ((Str.ofString "sizes"), .ref lz)]) ∧ News g L h' ((lz, listOf sz nz') :: (L + 1 + 1 + 1, o1) :: (L + 1 + 1, o2') :: (L + 1, o3) :: (D, listOf (List.toArray vp) 0) :: tp) ∧
     All2 (fun v (t : Tie) => ∃ tk, v = .int ((wl kind t).length : Int) tk) sz.toList ties) ?_ ?_
  · refine wpAny_For ?_
    repeat' tb_rel
    rename Fr _ _ _ _ => F5
    rename News _ _ _ _ => N5
    refine iter_list (items := items) (fun i m news => ∃ u nz' sz, m = bd u [((Str.ofString "ties"), .ref lt), ((Str.ofString "sizes"), .ref lz)] ∧ news = (lz, listOf sz nz') :: (L + 1 + 1 + 1, o1) :: (L + 1 + 1, o2') :: (L + 1, o3) :: (D, listOf (List.toArray vp) 0) :: tp ∧
        All2 (fun v (t : Tie) => ∃ tk, v = .int ((wl kind t).length : Int) tk) sz.toList (ties.take i)) rfl F5 N5 (fun i m news h _ F _ => let ⟨o, a, b⟩ := hlg; ⟨o, F.keep _ _ a, b⟩)
      ⟨_, 0, #[], (bd_eq (bdOk_all (by exact ⟨rfl, rfl, trivial⟩))).symm, rfl, trivial⟩ ?_ ?_
    · (try clear F5 N5 F4 N4)
      rintro i v m news h tk I io hI hv ⟨u, nz', sz, rfl, rfl, hsz⟩ F6 N6 hn
      obtain ⟨⟨b1, g1, y1⟩, ht, av, tb, tg, ty, rfl, hav⟩ := hig.get (by simpa using hv)
      have hav5 := F6.keep _ _ hav
      have hgd : Good (b1, g1, y1) := hg _ (List.mem_of_getElem? ht)
      have hwk := Hid.mk (w_ok hk hgd)
      have hgd0 := hgd
      obtain ⟨gb, gg, gy⟩ := hgd
      dsimp only at gb gg gy
      obtain ⟨pg1, pg2, pg3⟩ := pl_ok g1 gg
      obtain ⟨pb1, pb2, pb3⟩ := pl_ok b1 gb
      have hpg : Hid (((placeN g1).map (·.length)).sum ≤ 100 ∧ (Txt.join (Str.ofString "/") (placeN g1)).length ≤ 200) := ⟨pg1, pg2⟩
      clear pg1 pg2 pb1 pb2
      have hvp : vp.length = 5 := p2.length
      obtain ⟨xb, hxb, qb⟩ := p2.get' (place_at _ gb)
      obtain ⟨xg, hxg, qg⟩ := p2.get' (place_at _ gg)
      repeat' tb_rel
      refine unpackN_ F6 N6 (show IsTup _ av #[.int b1 tb, .int g1 tg, .int y1 ty] from ⟨_, hav5, rfl, _, rfl⟩) rfl rfl rfl (fun h7 F7 N7 => ?_)
      (try clear F6 N6)
      repeat' tb_rel
      rename Fr _ _ _ _ => F8
      rename News _ _ _ _ => N8
      refine' eval_lcomp_str (cl := [((Str.ofString "table"), L + 1)]) F8 ?z1 ?z2 ?z3 ?z4 ?z5 ?z6 ?z7 ?z8 ?z9
      case z1 => rfl
      case z2 => rfl
      case z3 => with_unfolding_all rfl
      case z4 => decide
      case z5 => rfl
      case z6 => decide
      case z7 => rfl
      case z8 => exact fun _ => rfl
      case z9 =>
        repeat' tb_rel
        rename Fr _ _ _ _ => F9
        rename News _ _ _ _ => N9
        refine item_at (list_of N9 (.tail _ (.tail _ (.tail _ (.tail _ (.tail _ (.head _))))))) (by omega) (by omega) (v := xb) (by simpa using hxb) ?_
        repeat' tb_rel
        rename Fr _ _ _ _ => F10
        rename News _ _ _ _ => N10
        refine item_at (list_of N10 (.tail _ (.tail _ (.tail _ (.tail _ (.tail _ (.head _))))))) (by omega) (by omega) (v := xg) (by simpa using hxg) ?_
        repeat' tb_rel
        rename Fr _ _ _ _ => F11
        rename News _ _ _ _ => N11
        refine call_up (n := 480) rfl (Nat.le_of_ble_eq_true rfl) (Nat.le_of_ble_eq_true rfl) ?_
        refine link_c Xg Tg (by exact F11.keep) (qb.at fun p hp => (N11 p (.tail _ (.tail _ (.tail _ (.tail _ (.tail _ (.tail _ hp))))))).1) (qg.at fun p hp => (N11 p (.tail _ (.tail _ (.tail _ (.tail _ (.tail _ (.tail _ hp))))))).1) gy pb3 pg3 hpg fun h12 tk12 t12 e12 => ?_
        obtain ⟨F12, N12⟩ := behind0 F11 N11 e12
        dsimp only [RV]
        refine ⟨lk (b1, g1, y1), t12, _, (fun j ys nw => nw = (I, io) :: (lz, listOf sz nz') :: (L + 1 + 1 + 1, o1) :: (L + 1 + 1, o2') :: (L + 1, o3) :: (D, listOf (List.toArray vp) 0) :: tp ∧ All2 (fun v (c : Nat) => ∃ tk, v = .int ((tabF kind c : Nat) : Int) tk) ys ((lk (b1, g1, y1)).cps.toList.take j)), rfl, (by have := hwk.out.short; rw [sizeLine_eq]; omega), F12, N12, ⟨rfl, trivial⟩, ?_, ?_⟩
        · rintro j v I2 oI2 C oC D3 m₂ h13 tk13 E' ys nw hj ⟨c, u13, hc, rfl⟩ ⟨rfl, hA⟩ hC hx F13 N13 off ne
          (try clear F12 N12 F11 N11 F10 N10 F9 N9 F8 N8)
          have hns := hC.ns (N13 (C, oC) (.tail _ (.head _))).1
          obtain ⟨z, tz, ez, hz⟩ := table_get hk hkv hgd0 hc (u := u13)
          repeat' tb_rel
          refine dgetm (kvs := kvs) (knd := strKind _ _) (by exact Heap.dictOf_iff.mpr ⟨odt, F13.keep _ _ hodg, hodd⟩) ?_
          repeat' tb_rel
          refine dget2 (kvs := kvs) (knd := strKind _ _) (k := ⟨#[c]⟩) (by exact Heap.dictOf_iff.mpr ⟨odt, F13.keep _ _ hodg, hodd⟩) hDt (strKind_is _ _ _ _) ?_
          rw [ez]
          have hzl : z.length ≤ 100 := by rw [hz]; exact tabF_le kind c
          repeat' tb_rel
          refine ⟨h13, _, _, rfl, F13, N13, off, trivial, rfl, ?_⟩
          rw [List.take_add_one, Array.getElem?_toList, hc]
          exact hA.append ⟨⟨_, by rw [hz]⟩, trivial⟩
        · intro D3 h13 tk13 ys nw ⟨e, hA⟩ F13 N13 off
          subst e
          (try clear F12 N12 F11 N11 F10 N10 F9 N9 F8 N8)
          repeat' tb_rel
          rename Fr _ _ _ _ => F14
          rename News _ _ _ _ => N14
          have hfin : (((lk (b1, g1, y1)).cps.toList.map fun c => ((tabF kind c : Nat) : Int)).sum) = ((wl kind (b1, g1, y1)).length : Int) := by
            rw [← sum_cast]
            exact congrArg Int.ofNat hwk.out.sum
          have hII : IntsAre ys ((lk (b1, g1, y1)).cps.toList.map fun c => ((tabF kind c : Nat) : Int)) := ints_of (by
            have e : (lk (b1, g1, y1)).cps.size = (lk (b1, g1, y1)).cps.toList.length := rfl
            rw [e, List.take_length] at hA
            exact hA)
          refine LSm.sum_ints (vs := ys) F14 N14 rfl (list_of N14 (.head _)) hII fun h15 tk15 t15 F15 N15 => ?_
          rw [hfin]
          (try clear F14 N14)
          repeat' tb_rel
          rename Fr _ _ _ _ => F16
          rename News _ _ _ _ => N16
          have hszl : sz.size ≤ 20 := by
            have := hsz.length
            simp only [List.length_take, Array.length_toList] at this
            omega
          refine append_K (D := lz) F16 N16 (.tail (Ne.symm off.2.1) (.tail (hn (lz, _) (.head _)).symm (.head nz))) (fun h17 F17 N17 => ?_) (by rw [sizeLine_eq]; omega)
          (try clear F16 N16)
          repeat' tb_rel
          rename Fr _ _ _ _ => F18
          rename News _ _ _ _ => N18
          dsimp only
          refine ⟨_, _, _, _, rfl, fr_bd F18 [((Str.ofString "ties"), .ref lt), ((Str.ofString "sizes"), .ref lz)] ⟨rfl, rfl, trivial⟩, news_sub N18 (fun p hp => .tail _ hp), ?_, ⟨_, _, _, rfl, rfl, ?_⟩⟩
          · intro p hp
            rcases List.mem_cons.mp hp with rfl | hp
            · exact hn (lz, listOf sz nz') (.head _)
            · exact hn p (.tail _ hp)
          · rw [Array.toList_push, List.take_add_one, ht]
            exact hsz.append ⟨⟨_, rfl⟩, trivial⟩
    · rintro m news h tk ⟨u, nz', sz, rfl, rfl, hsz⟩ F6 N6
      have e : items.size = ties.length := hi.length
      rw [e, List.take_length] at hsz
      exact ⟨rfl, _, _, _, _, _, rfl, F6, N6, hsz⟩
  · rintro s' ⟨u, h5, tk5, nz', sz, rfl, F6, N6, hsz⟩
    repeat' tb_rel
    refine made_int F6 N6 (by rfl) (of_decide_eq_true (by rfl)) (fun h8 od F8 N8 hd8 => ?_)
    have lo8 := F6.notModules (modules_low (Top.nolimit Tg))
    have nD8 : ∀ p ∈ (lz, listOf sz nz') :: (L + 1 + 1 + 1, o1) :: (L + 1 + 1, o2') :: (L + 1, o3) :: (D, listOf (List.toArray vp) 0) :: tp, p.1 ≠ h5.objs.size := fun p hp => Nat.ne_of_lt (Heap.lt_size (N6 p hp).1)
    (try dsimp only at N8)
    generalize hDf : h5.objs.size = Df at *
    repeat' tb_rel
    have ne4 : @Ne Nat (L + 1 + 1) (L + 1 + 1 + 1) := ne2.symm
    have ne5 : @Ne Nat (L + 1) (L + 1 + 1 + 1) := Nat.ne_of_lt (Nat.lt_succ_of_lt (Nat.lt_succ_self _))
    refine storeX_C F8 N8 rfl (.tail (nD8 _ (.tail _ (.head _))).symm (.tail (nz _ (.head _)).symm (.head ?_))) d1 (fun h9 o1' F9 N9 d1' => ?_)
    · intro p hp
      rcases List.mem_cons.mp hp with rfl | hp
      · exact ne4
      rcases List.mem_cons.mp hp with rfl | hp
      · exact ne5
      · exact ne6 p hp
    (try clear F8 N8)
    clear d1
    replace nD8 : ∀ p ∈ (lz, listOf sz nz') :: (L + 1 + 1 + 1, o1') :: (L + 1 + 1, o2') :: (L + 1, o3) :: (D, listOf (List.toArray vp) 0) :: tp, p.1 ≠ Df := fun p hp => by
      rcases List.mem_cons.mp hp with rfl | hp
      · exact nD8 _ (.head _)
      rcases List.mem_cons.mp hp with rfl | hp
      · exact nD8 (L + 1 + 1 + 1, o1) (.tail _ (.head _))
      · exact nD8 p (.tail _ (.tail _ hp))
    have hfar0 : ∀ t1 t2 : Tok, FarIs (intKeyPairs [(Value.int 0 t1, Value.int 0 t2)]) (rounds (fun t => ((wl kind t).length : Int)) ties 0) := fun _ _ => FarIs.init
    dsimp only
    repeat' tb_rel
    rename Fr _ _ _ _ => F10
    rename News _ _ _ _ => N10
    refine cut_ (fun s' => ∃ u h' tk' od' kvf, s' = { s with heap := h', toks := tk' } ∧ Fr g L h' (bd u [((Str.ofString "ties"), .ref lt), ((Str.ofString "sizes"), .ref lz)]) ∧
       News g L h' ((Df, od') :: (lz, listOf sz nz') :: (L + 1 + 1 + 1, o1') :: (L + 1 + 1, o2') :: (L + 1, o3) :: (D, listOf (List.toArray vp) 0) :: tp) ∧
       od'.IsDictOf (intKind PySem.Challenge.pw_ik0194_01 w) kvf ∧ FarIs kvf (rounds (fun t => ((wl kind t).length : Int)) ties 4)) ?_ ?_
    · refine wpAny_For ?_
      repeat' tb_rel
      rename Fr _ _ _ _ => F11
      rename News _ _ _ _ => N11
      rename IsRange _ _ _ _ _ _ _ _ => hR
      refine iter_range (n := 4) (fun r m news => ∃ u od' kvf, m = bd u [((Str.ofString "ties"), .ref lt), ((Str.ofString "sizes"), .ref lz)] ∧ news = (Df, od') :: (lz, listOf sz nz') :: (L + 1 + 1 + 1, o1') :: (L + 1 + 1, o2') :: (L + 1, o3) :: (D, listOf (List.toArray vp) 0) :: tp ∧
          od'.IsDictOf (intKind PySem.Challenge.pw_ik0194_01 w) kvf ∧ FarIs kvf (rounds (fun t => ((wl kind t).length : Int)) ties r)) rfl hR rfl rfl F11 N11 ⟨_, od, _, (bd_eq (bdOk_all (by exact ⟨rfl, rfl, trivial⟩))).symm, rfl, hd8, hfar0 _ _⟩ ?_ ?_
      · clear hR
        (try clear F11 N11 F10 N10 F9 N9)
        rintro r tr m news h tk I io hI hr ⟨u, od1, kvf, rfl, rfl, hd1, hf1⟩ F12 N12 hn
        repeat' tb_rel
        rename Fr _ _ _ _ => F13
        rename News _ _ _ _ => N13
        refine cut_ (fun s' => ∃ u h' tk' od' kvf, s' = { s with heap := h', toks := tk' } ∧ Fr g L h' (bd u [((Str.ofString "ties"), .ref lt), ((Str.ofString "sizes"), .ref lz)]) ∧
           News g L h' ((I, io) :: (Df, od') :: (lz, listOf sz nz') :: (L + 1 + 1 + 1, o1') :: (L + 1 + 1, o2') :: (L + 1, o3) :: (D, listOf (List.toArray vp) 0) :: tp) ∧
           od'.IsDictOf (intKind PySem.Challenge.pw_ik0194_01 w) kvf ∧ FarIs kvf (rounds (fun t => ((wl kind t).length : Int)) ties (r + 1))) ?_ ?_
        · refine wpAny_For ?_
          repeat' tb_rel
          rename Fr _ _ _ _ => F14
          rename News _ _ _ _ => N14
          have hisz : items.size = ties.length := hi.length
          refine call_len_list (items := items) (by exact let ⟨o, a, b⟩ := hlg; ⟨o, F14.keep _ _ a, b⟩) (by omega) ?_
          repeat' tb_rel
          rename Fr _ _ _ _ => F15
          rename News _ _ _ _ => N15
          rename IsRange _ _ _ _ _ _ _ _ => hR2
          have hrg := range_ok items.size (by omega)
          refine iter_range (n := items.size) (fun k m news => ∃ u od' kvf, m = bd u [((Str.ofString "ties"), .ref lt), ((Str.ofString "sizes"), .ref lz)] ∧ news = (I, io) :: (Df, od') :: (lz, listOf sz nz') :: (L + 1 + 1 + 1, o1') :: (L + 1 + 1, o2') :: (L + 1, o3) :: (D, listOf (List.toArray vp) 0) :: tp ∧
              od'.IsDictOf (intKind PySem.Challenge.pw_ik0194_01 w) kvf ∧ FarIs kvf ((ties.take k).foldl (relax fun t => ((wl kind t).length : Int)) (rounds (fun t => ((wl kind t).length : Int)) ties r))) rfl hR2 hrg.1 hrg.2 F15 N15 ⟨_, od1, kvf, (bd_eq (bdOk_all (by exact ⟨rfl, rfl, trivial⟩))).symm, rfl, hd1, hf1⟩ ?_ ?_
          · clear hR2
            (try clear F15 N15 F14 N14 F13 N13 F12 N12)
            rintro i ti m news h16 tk16 I2 io2 hI2 hi2 ⟨u2, od2, kv2, rfl, rfl, hd2, hf2⟩ F16 N16 hn2
            obtain ⟨vv, hvv⟩ : ∃ vv, items[i]? = some vv := ⟨_, Array.getElem?_eq_getElem hi2⟩
            obtain ⟨⟨b1, g1, y1⟩, ht, av, tb, tg, ty, rfl, hav⟩ := hig.get (by simpa using hvv)
            have hgd : Good (b1, g1, y1) := hg _ (List.mem_of_getElem? ht)
            obtain ⟨gb, gg, gy⟩ := hgd
            dsimp only at gb gg gy
            repeat' tb_rel
            rename Fr _ _ _ _ => F17
            rename News _ _ _ _ => N17
            refine item_at (by exact let ⟨o, a, b⟩ := hlg; ⟨o, F17.keep _ _ a, b⟩) (by omega) (by omega) (v := .ref av) (by simpa using hvv) ?_
            repeat' tb_rel
            refine unpackN_ F17 N17 (show IsTup _ av #[.int b1 tb, .int g1 tg, .int y1 ty] from ⟨_, F17.keep _ _ hav, rfl, _, rfl⟩) rfl rfl rfl (fun h18 F18 N18 => ?_)
            (try clear F16 N16 F17 N17)
            repeat' tb_rel
            rename Fr _ _ _ _ => F19
            rename News _ _ _ _ => N19
            have hst : ((ties.take (i + 1)).foldl (relax fun t => ((wl kind t).length : Int)) (rounds (fun t => ((wl kind t).length : Int)) ties r)) = relax (fun t => ((wl kind t).length : Int)) ((ties.take i).foldl (relax fun t => ((wl kind t).length : Int)) (rounds (fun t => ((wl kind t).length : Int)) ties r)) (b1, g1, y1) := by
              rw [List.take_add_one, ht, List.foldl_append]
              rfl
            generalize ((ties.take i).foldl (relax fun t => ((wl kind t).length : Int)) (rounds (fun t => ((wl kind t).length : Int)) ties r)) = f at hst hf2
            have hln : kv2.length ≤ 5 := far_length hf2 (let ⟨_, _, _, _, _, _, hn⟩ := hd2; hn)
            have hn3 : ∀ od', ∀ p ∈ (I, io) :: (Df, od') :: (lz, listOf sz nz') :: (L + 1 + 1 + 1, o1') :: (L + 1 + 1, o2') :: (L + 1, o3) :: (D, listOf (List.toArray vp) 0) :: tp, p.1 ≠ I2 := fun od' p hp => by
              rcases List.mem_cons.mp hp with rfl | hp
              · exact hn2 (I, io) (.head _)
              rcases List.mem_cons.mp hp with rfl | hp
              · exact hn2 (Df, od2) (.tail _ (.head _))
              · exact hn2 p (.tail _ (.tail _ hp))
            have hup : UpdF Df od2 ((I2, io2) :: (I, io) :: (Df, od2) :: (lz, listOf sz nz') :: (L + 1 + 1 + 1, o1') :: (L + 1 + 1, o2') :: (L + 1, o3) :: (D, listOf (List.toArray vp) 0) :: tp) (fun od' => (I2, io2) :: (I, io) :: (Df, od') :: (lz, listOf sz nz') :: (L + 1 + 1 + 1, o1') :: (L + 1 + 1, o2') :: (L + 1, o3) :: (D, listOf (List.toArray vp) 0) :: tp) :=
              .tail (hn2 (Df, od2) (.tail _ (.head _))).symm (.tail (hn (Df, od1) (.head _)).symm (.head nD8))
            refine kda_in N19 (.tail _ (.tail _ (.head _))) hd2 lo8 (intKind_is _ _ _ _) (f b1).isSome (hf2.isSome_ b1) ?_
            cases hfb : f b1 with
            | none =>
              dsimp only [Option.isSome]
              repeat' tb_rel
              rename Fr _ _ _ _ => F20
              rename News _ _ _ _ => N20
              dsimp only
              refine ⟨_, _, _, _, rfl, fr_bd F20 [((Str.ofString "ties"), .ref lt), ((Str.ofString "sizes"), .ref lz)] ⟨rfl, rfl, trivial⟩, N20, ?_, ⟨_, od2, kv2, rfl, rfl, hd2, by rw [hst, relax_none (t := (b1, g1, y1)) hfb]; exact hf2⟩⟩
              exact hn3 od2
            | some v =>
              dsimp only [Option.isSome]
              obtain ⟨tv, hv1⟩ := hf2.some_ b1 v hfb
              obtain ⟨xs, hxs, ⟨tw, rfl⟩⟩ := hsz.get' ht
              repeat' tb_rel
              rename Fr _ _ _ _ => F20
              rename News _ _ _ _ => N20
              refine kda_item (knd := intKind _ _) (k := (b1 : Int)) N20 (.tail _ (.tail _ (.head _))) hd2 (intKind_is _ _ _ _) hv1 ?_
              repeat' tb_rel
              rename Fr _ _ _ _ => F21
              rename News _ _ _ _ => N21
              refine item_at (list_of N21 (.tail _ (.tail _ (.tail _ (.head _))))) (by omega) (by omega) (v := .int ((wl kind (b1, g1, y1)).length : Int) tw) (by simpa using hxs) ?_
              repeat' tb_rel
              rename Fr _ _ _ _ => F22
              rename News _ _ _ _ => N22
              refine kdg_notin N22 (.tail _ (.tail _ (.head _))) hd2 lo8 (intKind_is _ _ _ _) (f g1).isSome (hf2.isSome_ g1) ?_
              cases hfg : f g1 with
              | none =>
                dsimp only [Option.isSome, Bool.not_false]
                repeat' tb_rel
                rename Fr _ _ _ _ => F23
                rename News _ _ _ _ => N23
                refine ite_t (by first | trivial | rfl) ?_
                refine ite_t (by first | trivial | rfl) ?_
                repeat' tb_rel
                rename Fr _ _ _ _ => F24
                rename News _ _ _ _ => N24
                refine kda_set F24 N24 hup hd2 (intKind_is _ _ _ _) (by rw [sizeLine_eq]; omega) (fun h25 od3 F25 N25 hd3 => ?_)
                (try clear F24 N24)
                (try dsimp only at N25)
                repeat' tb_rel
                rename Fr _ _ _ _ => F26
                rename News _ _ _ _ => N26
                dsimp only
                refine ⟨_, _, _, _, rfl, fr_bd F26 [((Str.ofString "ties"), .ref lt), ((Str.ofString "sizes"), .ref lz)] ⟨rfl, rfl, trivial⟩, N26, hn3 od3, ⟨_, od3, _, rfl, rfl, hd3, by rw [hst, relax_new (t := (b1, g1, y1)) hfb hfg]; exact hf2.set gg⟩⟩
              | some u3 =>
                dsimp only [Option.isSome, Bool.not_true]
                obtain ⟨tg3, hv3⟩ := hf2.some_ g1 u3 hfg
                repeat' tb_rel
                rename Fr _ _ _ _ => F23
                rename News _ _ _ _ => N23
                refine kda_item (knd := intKind _ _) (k := (g1 : Int)) N23 (.tail _ (.tail _ (.head _))) hd2 (intKind_is _ _ _ _) hv3 ?_
                repeat' tb_rel
                rename Fr _ _ _ _ => F28
                rename News _ _ _ _ => N28
                refine ite_b (fun c => ?_) (fun c => ?_)
                · have hlt := of_decide_eq_true c
                  repeat' tb_rel
                  rename Fr _ _ _ _ => F24
                  rename News _ _ _ _ => N24
                  refine kda_set F24 N24 hup hd2 (intKind_is _ _ _ _) (by rw [sizeLine_eq]; omega) (fun h25 od3 F25 N25 hd3 => ?_)
                  (try clear F24 N24)
                  (try dsimp only at N25)
                  repeat' tb_rel
                  rename Fr _ _ _ _ => F26
                  rename News _ _ _ _ => N26
                  dsimp only
                  refine ⟨_, _, _, _, rfl, fr_bd F26 [((Str.ofString "ties"), .ref lt), ((Str.ofString "sizes"), .ref lz)] ⟨rfl, rfl, trivial⟩, N26, hn3 od3, ⟨_, od3, _, rfl, rfl, hd3, by rw [hst, relax_lt (t := (b1, g1, y1)) hfb hfg hlt]; exact hf2.set gg⟩⟩
                · have hlt := of_decide_eq_false c
                  repeat' tb_rel
                  rename Fr _ _ _ _ => F24
                  rename News _ _ _ _ => N24
                  dsimp only
                  refine ⟨_, _, _, _, rfl, fr_bd F24 [((Str.ofString "ties"), .ref lt), ((Str.ofString "sizes"), .ref lz)] ⟨rfl, rfl, trivial⟩, N24, hn3 od2, ⟨_, od2, kv2, rfl, rfl, hd2, by rw [hst, relax_ge (t := (b1, g1, y1)) hfb hfg hlt]; exact hf2⟩⟩
          · rintro m news h tk ⟨u, od1, kvf, rfl, rfl, hd1, hf1⟩ F16 N16
            rw [hisz, List.take_length] at hf1
            exact ⟨rfl, _, _, _, od1, kvf, rfl, F16, N16, hd1, hf1⟩
        · rintro s' ⟨u, h14, tk14, od2, kvf, rfl, F14, N14, hd2, hf2⟩
          repeat' tb_rel
          rename Fr _ _ _ _ => F15
          rename News _ _ _ _ => N15
          dsimp only
          refine ⟨_, _, _, _, rfl, F15, N15, ?_, ⟨_, od2, kvf, rfl, rfl, hd2, hf2⟩⟩
          intro p hp
          rcases List.mem_cons.mp hp with rfl | hp
          · exact hn (Df, od1) (.head _)
          · exact hn p (.tail _ hp)
      · rintro m news h tk ⟨u, od1, kvf, rfl, rfl, hd1, hf1⟩ F12 N12
        exact ⟨rfl, _, _, _, od1, kvf, rfl, F12, N12, hd1, hf1⟩
    · rintro s' ⟨u, h11, tk11, od1, kvf, rfl, F11, N11, hd1, hf1⟩
      have hkn : (kvf.map (·.1)).Nodup := let ⟨_, _, _, _, _, _, hn⟩ := hd1; hn
      have hf5 := rounds_five (wt := fun t => ((wl kind t).length : Int)) hg 4
      have hmem := pairs_mem hf1 hkn hf5
      have hnod := pairs_nodup hf1 hkn
      have hle := far_length hf1 hkn
      have hge := far_two hf1 hfirst
      have hitem := fun i k0 x hi => hf1.item hkn (i := i) (k0 := k0) (x := x) hi
      replace hmem := Hid.mk hmem
      replace hnod := Hid.mk hnod
      replace hitem := Hid.mk hitem
      clear hf1 hkn hf5
      generalize rounds (fun t => ((wl kind t).length : Int)) ties 4 = f at *
      repeat' tb_rel
      rename Fr _ _ _ _ => F12
      rename News _ _ _ _ => N12
      refine' eval_lcomp_dict (intKind _ _) (cl := [((Str.ofString "places"), L + 1 + 1), ((Str.ofString "far"), L + 1 + 1 + 1)]) F12 ?z1 ?z2 ?z3 ?z4 ?z5 ?z6 ?z7 ?z8 ?z9
      case z1 => rfl
      case z2 => rfl
      case z3 => with_unfolding_all rfl
      case z4 => decide
      case z5 => rfl
      case z6 => decide
      case z7 => rfl
      case z8 => exact fun _ => rfl
      case z9 =>
        repeat' tb_rel
        rename Fr _ _ _ _ => F13
        rename News _ _ _ _ => N13
        refine ⟨Df, od1, kvf, _, (fun i ys nw => ∃ tl ts, nw = (Df, od1) :: (lz, listOf sz nz') :: (L + 1 + 1 + 1, o1') :: (L + 1 + 1, o2') :: (L + 1, o3) :: (D, listOf (List.toArray vp) 0) :: tl ∧ (∀ p ∈ tp, p ∈ tl) ∧ (∀ p ∈ ts, p ∈ tl) ∧ Tups ts ∧ All2 (PairIn ts) ys ((kvf.take i).map (pairK f))), rfl, lo8, hd1, .head _, (by rw [sizeLine_eq]; omega), F13, N13, ⟨tp, [], rfl, (fun _ h => h), (fun _ h => nomatch h), (fun _ h => nomatch h), trivial⟩, ?_, ?_⟩
        · rintro i v I2 oI2 C oC D3 m₂ h13 tk13 E' ys nw hi ⟨k0, x0, hk0, hkey⟩ ⟨tl, ts, rfl, htp, hts, hTs, hA⟩ hC hx F14 N14 off ne
          (try clear F13 N13 F12 N12)
          have hns := hC.ns (N14 (C, oC) (.tail _ (.head _))).1
          obtain ⟨kk, vv, tv, hkk, rfl, hfk, rfl, hvv, hpk⟩ := hitem.out i k0 x0 hk0
          obtain ⟨tkk, rfl⟩ := Value.isInt_shape hkey
          obtain ⟨xk, hxk, qk0⟩ := p2.get' (place_at kk hkk)
          obtain ⟨ax, vx, rfl, hax, hsx⟩ := qk0
          obtain ⟨pk1, pk2, pk3⟩ := pl_ok kk hkk
          have hvp : vp.length = 5 := p2.length
          repeat' tb_rel
          refine kda_item (knd := intKind _ _) (k := (kk : Int)) N14 (.tail _ (.tail _ (.tail _ (.head _)))) hd1 (intKind_is _ _ _ _) hvv ?_
          repeat' tb_rel
          refine item_at (list_of N14 (.tail _ (.tail _ (.tail _ (.tail _ (.tail _ (.tail _ (.tail _ (.tail _ (.head _)))))))))) (by omega) (by omega) (v := .ref ax) (by simpa using hxk) ?_
          repeat' tb_rel
          refine join_tuple (ys := placeN kk) (by exact ⟨_, (N14 _ (.tail _ (.tail _ (.tail _ (.tail _ (.tail _ (.tail _ (.tail _ (.tail _ (.tail _ (htp _ hax))))))))))).1, rfl, _, rfl⟩) (by simpa using hsx) (by have h2 : (Str.length (Str.ofString "/")) = 1 := (by decide); rw [h2]; omega) fun t9 k9 => ?_
          repeat' tb_rel
          rename Fr _ _ _ _ => F15
          rename News _ _ _ _ => N15
          rename Addr => T1
          rename I2 < T1 ∧ _ => l15
          obtain ⟨oT, hT1, hcl, N16⟩ : ∃ oT, PairIn [(T1, oT)] (.ref T1) (vv, nameN kk) ∧ oT.cls = .type "tuple" ∧ News g L _ ((I2, oI2) :: (C, oC) :: (D3, LCg.lst ys) :: (Df, od1) :: (lz, listOf sz nz') :: (L + 1 + 1 + 1, o1') :: (L + 1 + 1, o2') :: (L + 1, o3) :: (D, listOf (List.toArray vp) 0) :: (T1, oT) :: tl) :=
            ⟨_, ⟨T1, _, _, rfl, .head _⟩, rfl, news_mv9 N15⟩
          refine ⟨_, _, _, rfl, F15, N16, ⟨off.1, off.2.1, off.2.2.1, off.2.2.2.1, off.2.2.2.2.1, off.2.2.2.2.2.1, ⟨Nat.ne_of_gt l15.1, Nat.ne_of_gt l15.2.1, Nat.ne_of_gt l15.2.2.1⟩, off.2.2.2.2.2.2⟩, .head _, ⟨(T1, oT) :: tl, (T1, oT) :: ts, rfl, fun p hp => .tail _ (htp p hp), fun p hp => ?_, fun p hp => ?_, ?_⟩⟩
          · rcases List.mem_cons.mp hp with rfl | hp
            · exact .head _
            · exact .tail _ (hts p hp)
          · rcases List.mem_cons.mp hp with rfl | hp
            · exact hcl
            · exact hTs p hp
          · rw [List.take_add_one, hk0, List.map_append]
            refine (hA.imp fun _ _ q => q.mono fun p hp => .tail _ hp).append ⟨?_, trivial⟩
            rw [hpk]
            exact hT1.mono fun p hp => by
              obtain rfl := List.mem_singleton.mp hp
              exact .head _
        · rintro D3 h13 tk13 ys nw ⟨tl, ts, rfl, htp, hts, hTs, hA⟩ F14 N14 off
          (try clear F13 N13 F12 N12)
          rw [List.take_length] at hA
          repeat' tb_rel
          rename Fr _ _ _ _ => F15
          rename News _ _ _ _ => N15
          have hlx : (kvf.map (pairK f)).length = kvf.length := List.length_map ..
          refine sorted_pairs (xs := kvf.map (pairK f)) F15 N15 (list_of N15 (.head _)) hA (fun p hp => .tail _ (.tail _ (.tail _ (.tail _ (.tail _ (.tail _ (.tail _ (hts p hp)))))))) (by omega) (by omega) hnod.out fun D4 n4 h16 out zs F16 N16 o1 o2 o3 => ?_
          (try clear F14 N14 F15 N15)
          repeat' tb_rel
          rename Fr _ _ _ _ => F17
          rename News _ _ _ _ => N17
          dsimp only
          refine ret _ _ D4 out n4 ts zs (fun b x hx => F17.keep _ _ (hg1 b x hx (by simp))) (adds_of N17 (fun p hp => ?_) hg1) hTs o1 o2 (fun x => (o3 x).trans (hmem.out x))
          rcases List.mem_cons.mp hp with rfl | hp
          · exact .head _
          · exact .tail _ (.tail _ (.tail _ (.tail _ (.tail _ (.tail _ (.tail _ (.tail _ (hts p hp))))))))
end Mine
end

section
open PySem PySem.W PyProof.Rows PySem.Calls
namespace Mine
theorem draws_ok (ns : List Int) : ∃ ds : List Nat, ((ns.take 10).map fun k => k.fmod 75) = ds.map (fun d => ((d : Nat) : Int)) ∧ ds.length ≤ 10 ∧ ∀ d ∈ ds, d < 75 := by
  refine ⟨(ns.take 10).map fun k => (k.fmod 75).toNat, ?_, ?_, ?_⟩
  · rw [List.map_map]
    refine List.map_congr_left fun k _ => ?_
    show k.fmod 75 = (((k.fmod 75).toNat : Nat) : Int)
    rw [Int.fmod_eq_emod_of_nonneg k (by decide)]
    omega
  · rw [List.length_map]
    exact List.length_take_le ..
  · intro d hd
    obtain ⟨k, _, rfl⟩ := List.mem_map.mp hd
    show (k.fmod 75).toNat < 75
    rw [Int.fmod_eq_emod_of_nonneg k (by decide)]
    omega
theorem ints_all : ∀ {ys : List Value} {ds : List Nat}, IntsAre ys (ds.map fun d => ((d : Nat) : Int)) → All2 (fun v (d : Nat) => ∃ t, v = .int (d : Nat) t) ys ds
  | [], [], _ => trivial
  | _ :: _, _ :: _, .cons _ t r => ⟨⟨t, rfl⟩, ints_all r⟩
theorem sum_nat : ∀ (ds : List Nat), (ds.map fun d => ((d : Nat) : Int)).sum = ((ds.sum : Nat) : Int)
  | [] => rfl
  | d :: r => by
    rw [List.map_cons, List.sum_cons, List.sum_cons, sum_nat r]
    omega
theorem strict_of {M : List (Int × Str)} (h1 : M.Pairwise LexLe) (h2 : (M.map (·.2)).Nodup) : M.Pairwise (fun a b => lexLt a b = true) := by
  unfold List.Nodup at h2
  rw [List.pairwise_map] at h2
  refine List.Pairwise.imp (fun {a b} h => ?_) (h1.and h2)
  obtain ⟨h3, h4⟩ := h
  cases q : lexLt a b with
  | true => rfl
  | false =>
    have := lex_antisymm (x := a) (y := b) h3 q
    exact absurd (by rw [this]) h4
theorem final_eq {wt : Tie → Int} {ties : List Tie} {M zs : List (Int × Str)} (hg : ∀ t ∈ ties, Good t) (D : DState nameN wt ties [] M) (hs : zs.Pairwise (fun a b => lexLt a b = true))
    (hm : ∀ x, x ∈ zs ↔ ∃ k, k < 5 ∧ rounds wt ties 4 k = some x.1 ∧ x.2 = nameN k) : M = zs := by
  have C := D.cert
  refine sorted_eq (strict_of D.sorted D.once) hs fun x => ?_
  rw [hm]
  constructor
  · intro hx
    obtain ⟨k, hk, e⟩ := C.named hg x hx
    exact ⟨k, hk, (C.same hg name_inj3).mpr ⟨hk, by rw [← e]; exact hx⟩, e⟩
  · rintro ⟨k, hk, h1, e⟩
    have := ((C.same hg name_inj3).mp h1).2
    rw [← e] at this
    exact this
theorem ties_len (ds : List Nat) : (tiesOf ds).length = ds.length + 3 := by
  unfold tiesOf
  rw [List.length_append, List.length_map]
  simp; omega
theorem ties_first (ds : List Nat) : (0, 1, 0) ∈ tiesOf ds := List.mem_append_left _ (.head _)
end Mine
end

section
open PySem PySem.W PyProof.Rows PySem.Calls
set_option maxRecDepth 100000
set_option maxHeartbeats 1000000
set_option maxHeartbeats 4000000

open Mine
local macro_rules | `(tactic| tb_rel) => `(tactic| first | (goal_has PySem.W.Frag.In; (fail_if_success (with_reducible show wpAny _ _ (call (Value.ref _) _ _) _ _ _)); walk1) | (goal_lacks PySem.W.Frag.In; (with_reducible show wpAny _ _ _ _ _ _); (fail_if_success (with_reducible show wpAny _ _ (execs (PySem.Stmt.While _ _ _ _ :: _) _) _ _ _)); (fail_if_success (with_reducible show wpAny _ _ (execs (PySem.Stmt.For _ _ _ _ _ :: _) _) _ _ _)); (fail_if_success (with_reducible show wpAny _ _ (call (Value.ref _) _ _) _ _ _)); (fail_if_success (with_reducible show wpAny _ _ (pyIter _) _ _ _)); (fail_if_success (with_reducible show wpAny _ _ (call (Value.builtin "str.split") _ _) _ _ _)); (fail_if_success (with_reducible show wpAny _ _ (call (Value.ref _) _ _) _ _ _)); (fail_if_success (with_reducible show wpAny _ _ (exec (PySem.Stmt.Try _ _ _ _ _) _) _ _ _)); (fail_if_success (with_reducible show wpAny _ _ (call (Value.builtin "sum") _ _) _ _ _)); (fail_if_success (with_reducible show wpAny _ _ (compareOp CmpOp.Eq (Value.ref _) _) _ _ _)); first | walk1 | (dsimp only; walk1)) | ((fail_if_success (with_reducible show wpAny _ _ _ _ _ _)); (with_reducible refine Mine.ite_t (by with_reducible first | rfl | exact True.intro) ?_)) | ((fail_if_success (with_reducible show wpAny _ _ _ _ _ _)); (with_reducible refine Mine.ite_f (by decide) ?_)) | fail "no step")
local macro_rules | `(tactic| tb_start) => `(tactic| first | (goal_has PySem.W.Frag.In; (fail_if_success (with_reducible show wpAny _ _ (call (Value.ref _) _ _) _ _ _)); walk1) | (goal_lacks PySem.W.Frag.In; (with_reducible show wpAny _ _ _ _ _ _); (fail_if_success (with_reducible show wpAny _ _ (execs (PySem.Stmt.While _ _ _ _ :: _) _) _ _ _)); (fail_if_success (with_reducible show wpAny _ _ (execs (PySem.Stmt.For _ _ _ _ _ :: _) _) _ _ _)); (fail_if_success (with_reducible show wpAny _ _ (execs (PySem.Stmt.If _ _ _ _ :: _) _) _ _ _)); (fail_if_success (with_reducible show wpAny _ _ (call (Value.ref _) _ _) _ _ _)); (fail_if_success (with_reducible show wpAny _ _ (pyIter _) _ _ _)); (fail_if_success (with_reducible show wpAny _ _ (call (Value.builtin "str.split") _ _) _ _ _)); (fail_if_success (with_reducible show wpAny _ _ (call (Value.ref _) _ _) _ _ _)); (fail_if_success (with_reducible show wpAny _ _ (exec (PySem.Stmt.Try _ _ _ _ _) _) _ _ _)); (fail_if_success (with_reducible show wpAny _ _ (call (Value.builtin "sum") _ _) _ _ _)); (fail_if_success (with_reducible show wpAny _ _ (compareOp CmpOp.Eq (Value.ref _) _) _ _ _)); first | walk1 | (dsimp only; walk1)) | ((fail_if_success (with_reducible show wpAny _ _ _ _ _ _)); (with_reducible refine Mine.ite_t (by with_reducible first | rfl | exact True.intro) ?_)) | ((fail_if_success (with_reducible show wpAny _ _ _ _ _ _)); (with_reducible refine Mine.ite_f (by decide) ?_)) | fail "no step")
theorem PySem.Challenge.cw_ik0194_01_holds : PySem.Challenge.rw_ik0194_01.Holds := by
  exact Mine.hd (by
    k_go0
    rename Dflts _ _ _ _ _ _ => hD
    rename World => w
    rename Top _ _ _ _ _ _ => Tg
    rename (hd.heap_39 w.params).In _ => Xg
    rename IntsAre _ _ => hI
    rename Heap.IsList _ _ _ => hL
    rename List Int => ns
    rename ¬ ((63 : Nat) : Int) < _ => hlen
    clear hD
    repeat' tb_rel
    rotate_left 2
    · exact fun k => k.fmod 75
    · rename Fr _ _ _ _ => F1
      rename News _ _ _ _ => N1
      rename _ ∧ _ ∧ _ => off
      refine LCg.CompEnd.intro F1 N1 _ (fun p hp => hp) ⟨by assumption, trivial⟩ (.inr ⟨_, .head _, rfl, _, rfl⟩) ⟨rfl, _, rfl⟩
    · intro ys hIy D1 h1 tk1 F1 N1 off1
      clear off1
      obtain ⟨ds, eds, hdl, hd75⟩ := draws_ok ns
      rw [eds] at hIy
      have hiA := ints_all hIy
      clear eds
      repeat' tb_rel
      rename Fr _ _ _ _ => F2
      rename News _ _ _ _ => N2
      refine LSm.sum_ints (vs := ys) F2 N2 rfl (list_of N2 (.head _)) hIy fun h3 tk3 t3 F3 N3 => ?_
      rw [sum_nat]
      (try clear F2 N2)
      generalize hSm : ds.sum = Sm
      have hmod : ((Sm : Nat) : Int).fmod 3 = ((Sm % 3 : Nat) : Int) := fmod_nat Sm 3
      have hk : Sm % 3 < 3 := Nat.mod_lt _ (by decide)
      repeat' tb_rel
      rename Fr _ _ _ _ => F4
      rename News _ _ _ _ => N4
      rw [hmod] at F4
      refine call_up (n := 480) rfl (Nat.le_of_ble_eq_true rfl) (Nat.le_of_ble_eq_true rfl) ?_
      refine ties_c Xg Tg (by exact F4.keep) (by exact list_of N4 (.head _)) hiA hdl hd75 fun h5 tk5 Dt vt nt tt e5 a5 t5 p5 => ?_
      obtain ⟨F5, N5⟩ := behindL F4 N4 e5 a5
      dsimp only [RV]
      have hgt := ties_good hd75
      have hlt : (tiesOf ds).length ≤ 13 := by rw [ties_len]; omega
      have hft := ties_first ds
      clear hd75 hdl hiA
      generalize tiesOf ds = tz at *
      repeat' tb_rel
      rename Fr _ _ _ _ => F6
      rename News _ _ _ _ => N6
      refine call_up (n := 440) rfl (Nat.le_of_ble_eq_true rfl) (Nat.le_of_ble_eq_true rfl) ?_
      refine met_c (kind := Sm % 3) Xg Tg (by exact F6.keep) (by exact list_of N6 (.head _)) (p5.imp fun _ _ q => q.at fun p hp => (N6 p (.tail _ (List.mem_append_left _ hp))).1) hk hgt hlt fun h7 tk7 Dm mv nm tm M e7 a7 t7 p7 hD7 => ?_
      obtain ⟨F7, N7⟩ := behindL F6 N6 e7 a7
      dsimp only [RV]
      replace hD7 := Hid.mk hD7
      repeat' tb_rel
      rename Fr _ _ _ _ => F8
      rename News _ _ _ _ => N8
      refine call_up (n := 480) rfl (Nat.le_of_ble_eq_true rfl) (Nat.le_of_ble_eq_true rfl) ?_
      refine table_c (kind := Sm % 3) Xg Tg (by exact F8.keep) hk fun h9 tk9 DT e9 n9 lo9 T9 => ?_
      obtain ⟨F9, N9⟩ := behind0 F8 N8 e9
      dsimp only [RV]
      repeat' tb_rel
      rename Fr _ _ _ _ => F10
      rename News _ _ _ _ => N10
      refine call_up (n := 440) rfl (Nat.le_of_ble_eq_true rfl) (Nat.le_of_ble_eq_true rfl) ?_
      refine due_c (kind := Sm % 3) Xg Tg (by exact F10.keep) (by exact list_of N10 (List.mem_append_right _ (.head _))) (p5.imp fun _ _ q => q.at fun p hp => (N10 p (List.mem_append_right _ (.tail _ (List.mem_append_left _ hp)))).1) hk hgt hlt hft (by exact T9) lo9 fun h11 tk11 Du ov nu tu zs e11 a11 t11 p11 s11 m11 => ?_
      obtain ⟨F11, N11⟩ := behindL F10 N10 e11 a11
      dsimp only [RV]
      have hnM := hD7.out.namedM hgt
      have hMz := final_eq hgt hD7.out s11 m11
      clear s11
      repeat' tb_rel
      rename Fr _ _ _ _ => F12
      rename News _ _ _ _ => N12
      refine kqd_eq (xs := mv.toList) (ys := ov) (n₁ := tm) (n₂ := tu) N12 (List.mem_append_right _ (.head _)) rfl rfl (pairs_dat p7) (fun p hp => List.mem_append_right _ (.tail _ (List.mem_append_left _ hp))) (.head _) rfl rfl (pairs_dat p11) (fun p hp => .tail _ (List.mem_append_left _ hp)) (fun d hd => ?_) (fun d hd => ?_) (Nat.le_of_ble_eq_true rfl) ?_
      · obtain ⟨x, hx, rfl⟩ := List.mem_map.mp hd
        exact pair_ok (hnM x hx)
      · obtain ⟨x, hx, rfl⟩ := List.mem_map.mp hd
        obtain ⟨k, hk5, _, e⟩ := (m11 x).mp hx
        exact pair_ok ⟨k, hk5, e⟩
      · have hdec : ∀ i : Decidable (M.map pairDat = zs.map pairDat), @decide _ i = true := fun i => @decide_eq_true _ i (by rw [hMz])
        rw [hdec]
        repeat' tb_rel
        rename Fr _ _ _ _ => F13
        rename News _ _ _ _ => N13
        refine goodW_bool F13 (by assumption) (raisesW_false ?_) ?_
        · wrow_none_raised
        · wrow_post)
end
