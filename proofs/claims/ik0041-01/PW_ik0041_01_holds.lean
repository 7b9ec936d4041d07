import PyProof.Rows.All
import Wide.All
import OpenK.AllK
import Wide.FinOn
import PySem.Challenge.RW_ik0041_01
set_option Elab.async false
set_option maxRecDepth 100000
set_option maxHeartbeats 0
section
open PySem PySem.W PyProof.Rows
namespace Mine
section
local macro_rules
  | `(($_ : $t:ident)) => if t.getId.eraseMacroScopes == `Env then Lean.Macro.throwError "no pieces" else Lean.Macro.throwUnsupported
open_top hd for PySem.Challenge.rw_ik0041_01
end
end Mine
end
section
open PySem PySem.W PyProof.Rows PySem.Calls
namespace Mine
theorem anew_Ma : True := by w_top off; trivial

/-- what a step keeps, but for the objects at S -/
def Ext (S : List Addr) (h h' : Heap) : Prop := ∀ b o, b ∉ S → h.get? b = some o → h'.get? b = some o

theorem Ext.refl (S : List Addr) (h : Heap) : Ext S h h := fun _ _ _ e => e
theorem Ext.trans {S : List Addr} {h h' h'' : Heap} (a : Ext S h h') (b : Ext S h' h'') : Ext S h h'' := fun x o n e => b x o n (a x o n e)
theorem Ext.ofStays {S : List Addr} {h h' : Heap} (a : h.StaysIn h') : Ext S h h' := fun x o _ e => a x o e
theorem Ext.stays {h h' : Heap} (a : Ext [] h h') : h.StaysIn h' := fun x o e => a x o (fun q => nomatch q) e
theorem stays_refl (h : Heap) : h.StaysIn h := fun _ _ e => e
theorem stays_trans {h h' h'' : Heap} (a : h.StaysIn h') (b : h'.StaysIn h'') : h.StaysIn h'' := fun x o e => b x o (a x o e)
theorem Ext.hb {S : List Addr} {hb h h' : Heap} (k : hb.StaysIn h) (hS : ∀ a ∈ S, hb.get? a = none) (a : Ext S h h') : hb.StaysIn h' := fun x o e =>
  a x o (fun q => by rw [hS x q] at e; cases e) (k x o e)
theorem Ext.fr {S : List Addr} {h₀ h h' : Heap} {L : Addr} {m : Str → Option Value} (F : Fr h₀ L h m) (a : Ext S h h') (hL : L ∉ S) (h0 : ∀ b ∈ S, h₀.get? b = none) : Fr h₀ L h' m := by
  obtain ⟨⟨o, es, ep, ho, r⟩, k, ab⟩ := F
  exact ⟨⟨o, es, ep, a L o hL ho, r⟩, Ext.hb k h0 a, ab⟩
theorem Ext.news {S : List Addr} {h₀ h h' : Heap} {L : Addr} {news : List (Addr × Obj)} (N : News h₀ L h news) (a : Ext S h h') (hn : ∀ p ∈ news, p.1 ∉ S) : News h₀ L h' news :=
  fun p hp => ⟨a p.1 p.2 (hn p hp) (N p hp).1, (N p hp).2⟩

section
variable {prog : Program} {w : World} {p : Program} {loose : List Str} {mean : ExcName → Option Value} {mg mb : Str → Option Value} {K : Frag} {hb : Heap}

theorem enter {A : Around} {s : Shared} {R : Result → Shared → Prop} {name qual : Str} {params : Arguments} {body : List Stmt} {scope : Scope} {dV kV doc pm cdv ct oc : Value} {an od : Option Addr} {osl : Array (Option Value)} {f : Addr} {args : Args} {binds : List (Str × Value)}
    (news : List (Addr × Obj)) (X : K.In hb) (T : Top p loose mean mg mb hb) (hst : hb.StaysIn s.heap) (hN : ∀ q ∈ news, s.heap.get? q.1 = some q.2 ∧ hb.get? q.1 = none)
    (ho : K.lookup f = some ⟨oc, od, .func (fnOf name qual params body scope dV kV doc pm an cdv ct), osl⟩) (hcd : codeIn K cdv qual = true) (hroom : A.depth < recursionLimit)
    (hbind : BindsTo s (fnOf name qual params body scope dV kV doc pm an cdv ct) args binds) (hloc : ∀ y ∈ binds, scope.names.lookup y.1 = some .local)
    (hcell : ∀ x ∈ scope.names, x.2 ≠ .cell) (hco : scope.isCoroutine = false) (hgen : scope.isGenerator = false) (hk : scope.kind = .function)
    (h : ∀ g L' h₁, (∀ b o, b ∉ news.map (·.1) → s.heap.get? b = some o → g.get? b = some o) → hb.StaysIn g → g.StaysIn s.heap → s.heap.StaysIn h₁ → Fr g L' h₁ (fun y => binds.reverse.lookup y) → News g L' h₁ news → K.In g → Top p loose mean mg mb g → s.heap.objs.size ≤ L' →
      wpAny (model prog w) (A.deeper (envOf qual scope L' f cdv)) (execs body (envOf qual scope L' f cdv))
        (fun fl s' => R (.ok (.ret (match fl with | .ret v => v | _ => .none))) s') (fun _ _ => False)
        { s with heap := h₁, toks := s.toks + binds.length }) :
    codeAny (model prog w) A (.call (.ref f) args) R s := by
  have Xs : K.In s.heap := X.keeps hst
  have nm : ∀ b o, hb.get? b = some o → b ∉ news.map (·.1) := fun b o e q => by
    obtain ⟨r, hr, rfl⟩ := List.mem_map.mp q
    rw [(hN r hr).2] at e; cases e
  have st : hb.StaysIn (hideAll s.heap (news.map (·.1))) := fun b o e => hideAll_get _ (hst b o e) (nm b o e)
  refine codeAny_call_def (fd := fnX name qual params body scope [] dV kV doc pm an cdv ct) (body := body) (binds := binds) hroom (Xs _ _ ho) rfl (T.nolimit.keeps hst) (codeRec_of Xs hcd) rfl hbind hcell hloc (fun h₁ hns hk₁ => ?_) hco hgen hk
  have Xg : K.In (hideAll s.heap (news.map (·.1))) := X.keeps st
  have Tg : Top p loose mean mg mb (hideAll s.heap (news.map (·.1))) := T.keeps st
  exact wpAny_mono (h (hideAll s.heap (news.map (·.1))) s.heap.objs.size h₁ (fun b o n e => hideAll_get _ e n) st (fun b o e => of_hideAll _ e) hk₁
    ⟨hns, fun b o e => hk₁ b o (of_hideAll _ e), Nat.le_of_eq (hideAll_size _ _)⟩
    (fun q hq => ⟨hk₁ _ _ (hN q hq).1, Nat.ne_of_lt (Heap.lt_size (hN q hq).1), hideAll_none _ (List.mem_map_of_mem hq)⟩) Xg Tg (Nat.le_refl _)) (fun _ _ q => q) fun _ _ q => q.elim
end

section
variable {prog : Program} {w : World} {A : Around} {E : Value → Shared → Prop} {s : Shared} {h₀ : Heap} {L D : Addr} {m : Str → Option Value} {rest : List (Addr × Obj)} {vs : List Value} {n : Nat} {k : Int} {t : Tok} {v : Value}

theorem l_get {value slice : PySem.Expr} {Q : Value → Shared → Prop} (N : News h₀ L s.heap ((D, listOf vs.toArray n) :: rest)) (h0 : 0 ≤ k) (hfit : k < 2 ^ 63) (hv : vs[k.toNat]? = some v) (h : Q v s)
    (hs : subscripted slice false (.ref D) (.int k t) = operate [.ref D, .int k t] (getItem (.ref D) (.int k t)) := by with_unfolding_all rfl) :
    wpAny (model prog w) A (subscriptTail value slice (.ref D) (.int k t)) Q E s :=
  have hl : s.heap.IsList D vs.toArray := PySem.IsL.isList (n := n) (N _ (.head _)).1
  tail_any hl.typeIs slot_list_getitem.lookup (wpAny_getItem_list hl h0 hfit (by simpa using hv) h) hs

theorem l_set {Q : Unit → Shared → Prop} (F : Fr h₀ L s.heap m) (N : News h₀ L s.heap ((D, listOf vs.toArray n) :: rest)) (hr : ∀ q ∈ rest, q.1 ≠ D) (h0 : 0 ≤ k) (hfit : k < 2 ^ 63) (h1 : k < vs.length)
    (h : ∀ h', Fr h₀ L h' m → News h₀ L h' ((D, listOf (vs.set k.toNat v).toArray n) :: rest) → Q () { s with heap := h' }) :
    wpAny (model prog w) A (setItem (.ref D) (.int k t) v) Q E s := by
  have z := N (D, listOf vs.toArray n) (.head _)
  have hs : (vs.toArray.size : Int) = vs.length := by rw [List.size_toArray]
  refine ki_setAt z.1 h0 hfit (by omega) (h _ (F.change (Heap.SameBut.update ..) z.2.1 z.2.2) (ki_turn (pre := []) _ N (fun _ q => nomatch q) hr ?_ ?_))
  · show vs.toArray.setIfInBounds k.toNat v = (vs.set k.toNat v).toArray
    apply Array.toList_inj.mp
    simp
  · simp

theorem l_append {Q : Value → Shared → Prop} (F : Fr h₀ L s.heap m) (N : News h₀ L s.heap ((D, listOf vs.toArray n) :: rest)) (hr : ∀ q ∈ rest, q.1 ≠ D) (hsz : vs.length ≤ 1000)
    (h : ∀ h', Fr h₀ L h' m → News h₀ L h' ((D, listOf (vs ++ [v]).toArray (n + 1)) :: rest) → Q .none { s with heap := h' }) :
    wpAny (model prog w) A (call (.builtin "list.append") [.ref D, v]) Q E s := by
  have e : vs.toArray.push v = (vs ++ [v]).toArray := by simp
  have U : Upd D (listOf vs.toArray n) (listOf (vs.toArray.push v) (n + 1)) ((D, listOf vs.toArray n) :: rest) ((D, listOf (vs.toArray.push v) (n + 1)) :: rest) := .head hr
  exact append_K (hsz := by rw [List.size_toArray, sizeLine_eq]; omega) F N U fun h' F' N' => h h' F' (e ▸ N')

theorem l_pop {Q : Value → Shared → Prop} (F : Fr h₀ L s.heap m) (N : News h₀ L s.heap ((D, listOf (vs ++ [v]).toArray n) :: rest)) (hr : ∀ q ∈ rest, q.1 ≠ D) (hsz : vs.length ≤ 1000)
    (h : ∀ h', Fr h₀ L h' m → News h₀ L h' ((D, listOf vs.toArray (n + 1)) :: rest) → Q v { s with heap := h' }) :
    wpAny (model prog w) A (call (.builtin "list.pop") [.ref D]) Q E s := by
  refine kl_pop F N (p := vs) (y := v) ?_ (.head hr) (by rw [sizeLine_eq]; simp; omega) fun h' F' N' => h h' F' N'
  simpa using kpa_last v vs
end

def LkOk (m : Str → Option Value) : List (Str × Value) → Prop
  | [] => True
  | (a, v) :: r => m a = some v ∧ LkOk m r
theorem LkOk.get {m : Str → Option Value} {y : Str} {v : Value} : ∀ {l : List (Str × Value)}, LkOk m l → l.lookup y = some v → m y = some v
  | [], _, h => nomatch h
  | (a, u) :: r, ⟨h1, h2⟩, h => by
    rw [List.lookup_cons] at h
    by_cases e : (y == a) = true
    · rw [e] at h
      have e' : y = a := eq_of_beq e
      subst e'
      exact h1.trans h
    · have e' : (y == a) = false := by simpa using e
      rw [e'] at h
      exact LkOk.get h2 h
theorem LkOk.upd {m : Str → Option Value} {x : Str} {v : Value} : ∀ {l : List (Str × Value)}, LkOk m l → (∀ q ∈ l, q.1 ≠ x) → LkOk (fun y => if y = x then some v else m y) l
  | [], _, _ => trivial
  | (a, u) :: r, ⟨h1, h2⟩, hn => ⟨(if_neg (hn (a, u) (.head _))).trans h1, LkOk.upd h2 fun q hq => hn q (.tail _ hq)⟩
theorem fr_lk {g h : Heap} {L : Addr} {m : Str → Option Value} {l : List (Str × Value)} (F : Fr g L h m) (hl : LkOk m l) : Fr g L h (fun y => (l.lookup y).or (m y)) := by
  have e : (fun y => (l.lookup y).or (m y)) = m := funext fun y => by
    cases q : l.lookup y with
    | none => rfl
    | some v => exact (hl.get q).symm
  rw [e]; exact F
theorem ext_of {S : List (Addr × Obj)} {h g h' : Heap} {L : Addr} {m : Str → Option Value} (hg : ∀ b o, b ∉ S.map (·.1) → h.get? b = some o → g.get? b = some o) (F : Fr g L h' m) : Ext (S.map (·.1)) h h' :=
  fun b o n e => F.keep b o (hg b o n e)

theorem news_new {g h h' : Heap} {L r : Addr} {m : Str → Option Value} {o : Obj} {news : List (Addr × Obj)} (F : Fr g L h m) (N : News g L h news) (he : h.StaysIn h') (hr : h.get? r = none) (ho : h'.get? r = some o) : News g L h' ((r, o) :: news) := fun q hq => by
  rcases List.mem_cons.mp hq with rfl | hq
  · refine ⟨ho, fun e => ?_, ?_⟩
    · obtain ⟨oL, _, _, hL, _⟩ := F.ns
      have e' : r = L := e
      rw [e', hL] at hr; cases hr
    · cases q : g.get? r with
      | none => rfl
      | some x => rw [F.keep _ _ q] at hr; cases hr
  · exact ⟨he _ _ (N q hq).1, (N q hq).2⟩
theorem fresh_hg {h g : Heap} {r : Addr} (hg : ∀ b o, b ∉ ([] : List (Addr × Obj)).map (·.1) → h.get? b = some o → g.get? b = some o) (e : g.get? r = none) : h.get? r = none := by
  cases q : h.get? r with
  | none => rfl
  | some o => rw [hg r o (fun q => nomatch q) q] at e; cases e

def WEnd (I : Nat → Shared → Prop) (n : Nat) (s : Shared) : Prop := ∃ m, m < n ∧ I m s
theorem my_while {prog : Program} {w : World} {A : Around} {E : Value → Shared → Prop} {s : Shared} {test : PySem.Expr} {body orelse : List Stmt} {pos : Pos} {env : Env} {Q : Flow → Shared → Prop} (I : Nat → Shared → Prop)
    (turn : ∀ n s, I n s → wpAny (model prog w) A (isTrue test env (eval test env)) (fun b s₂ =>
      if b = true then wpAny (model prog w) A (execs body env) (fun f s₃ => match f with
          | .next => WEnd I n s₃ | .cont => WEnd I n s₃ | .brk => Q .next s₃ | .ret v => Q (.ret v) s₃) (fun _ _ => False) s₂
      else wpAny (model prog w) A (execs orelse env) Q (fun _ _ => False) s₂) (fun _ _ => False) s)
    (n : Nat) (h : I n s) : wpAny (model prog w) A (exec (.While test body orelse pos) env) Q E s := by
  refine wpAny_While (codeAny_whileLoop I (fun k s' hI => ?_) n h)
  refine wpAny_mono (turn k s' hI) (fun b s₂ h₂ => ?_) fun _ _ q => q.elim
  cases b with
  | false =>
    simp only [Bool.false_eq_true, if_false] at h₂ ⊢
    exact wpAny_mono h₂ (fun f s₃ q => q) fun _ _ q => q.elim
  | true =>
    simp only [if_true] at h₂ ⊢
    refine wpAny_mono h₂ (fun f s₃ q => ?_) fun _ _ q => q.elim
    cases f <;> exact q
end Mine
end
section
open PySem PySem.W PyProof.Rows PySem.Calls
namespace Mine
theorem anew_Mf : True := by w_top off; trivial

def ItObj (o : Obj) (l : Addr) (i : Nat) : Prop := o.cls = .type "list_iterator" ∧ o.data = .fields #[.ref l, .int i 0]

/-- a turn's end of a for over a list's values -/
structure FEnd (g : Heap) (L : Addr) (J : Nat → (Str → Option Value) → List (Addr × Obj) → Prop) (itA l : Addr) (i : Nat) (s s₃ : Shared) : Prop where
  ex : ∃ (h : Heap) (tk : Nat) (m : Str → Option Value) (news : List (Addr × Obj)) (o : Obj), s₃ = { s with heap := h, toks := tk } ∧ J i m news ∧ ItObj o l i ∧ Fr g L h m ∧ News g L h ((itA, o) :: news) ∧ ∀ q ∈ news, q.1 ≠ itA

section
variable {prog : Program} {w : World} {A : Around} {s : Shared} {E : Value → Shared → Prop} {Q : Flow → Shared → Prop} {env : Env} {g : Heap} {L l : Addr} {vs : List Value} {x : Str} {px pos : Pos} {iter : PySem.Expr} {body : List Stmt}
theorem my_for (J : Nat → (Str → Option Value) → List (Addr × Obj) → Prop) {m : Str → Option Value} {news : List (Addr × Obj)} (hh : A.handled = none)
    (hk : env.scope.kind = .function) (hx : env.kindOf x = some .local) (hloc : env.locals = L) (hl : g.IsList l vs.toArray)
    (F : Fr g L s.heap m) (N : News g L s.heap news) (hj : J 0 m news)
    (heval : wpAny (model prog w) A (eval iter env) (fun v s' => v = .ref l ∧ s' = s) (fun _ _ => False) s)
    (turn : ∀ i v itA m₁ news₁ h tk o, vs[i]? = some v → J i m₁ news₁ → (∀ q ∈ news₁, q.1 ≠ itA) → ItObj o l (i + 1) → Fr g L h (fun y => if y = x then some v else m₁ y) → News g L h ((itA, o) :: news₁) →
      wpAny (model prog w) A (execs body env) (fun f s₃ => match f with
        | .next => FEnd g L J itA l (i + 1) s s₃ | .cont => FEnd g L J itA l (i + 1) s s₃ | .brk => Q .next s₃ | .ret v => Q (.ret v) s₃) (fun _ _ => False) { s with heap := h, toks := tk })
    (done : ∀ m₁ news₁ h tk, J vs.length m₁ news₁ → Fr g L h m₁ → News g L h news₁ → Q .next { s with heap := h, toks := tk })
    (hs : ∀ x, foldedSetIterable iter env x = pure x := by intro _; rfl) :
    wpAny (model prog w) A (exec (.For (.Name x px) iter body [] pos) env) Q E s := by
  refine wpAny_For (wpAny_mono heval (fun v s₁ hv => ?_) fun _ _ q => q.elim) hs
  obtain ⟨rfl, rfl⟩ := hv
  have hls : s₁.heap.IsList l vs.toArray := hl.at fun o e => F.keep l o e
  refine wpAny_pyIter_list hls ?_
  have hsz : ∀ q ∈ news, q.1 ≠ s₁.heap.objs.size := fun q hq => Nat.ne_of_lt (Heap.lt_size (N q hq).1)
  have F₀ := F.push { cls := .type "list_iterator", data := .fields #[.ref l, .int 0 0] }
  have N₀ := News.push F N { cls := .type "list_iterator", data := .fields #[.ref l, .int 0 0] }
  let I : Nat → Shared → Prop := fun n s' => ∃ i, n + i = vs.length ∧ FEnd g L J s₁.heap.objs.size l i s₁ s'
  refine codeAny_forLoop I (fun n s' hI => ?_) vs.length ⟨0, by omega, ⟨_, _, m, news, _, rfl, hj, ⟨rfl, rfl⟩, F₀, N₀, hsz⟩⟩ (by intro _; rfl)
  obtain ⟨i, hi, ⟨h, tk, m₁, news₁, o, rfl, hJ, ho, F₁, N₁, hn⟩⟩ := hI
  have hit : h.IsListIter s₁.heap.objs.size l i := ⟨o, (N₁ _ (.head _)).1, ho.1, ho.2⟩
  have hl₁ : h.IsList l vs.toArray := hl.at fun o e => F₁.keep l o e
  have zL := (N₁ _ (.head _)).2
  by_cases hlt : i < vs.length
  · refine wpAny_pyNext_list_item hit hl₁ (x := vs[i]) (by simp [hlt]) fun h' hit' hsb => ?_
    obtain ⟨o', ho', hc', hd'⟩ := hit'
    have F₂ : Fr g L h' m₁ := F₁.change hsb zL.1 zL.2
    have N₂ : News g L h' ((s₁.heap.objs.size, o') :: news₁) := fun q hq => by
      rcases List.mem_cons.mp hq with rfl | hq
      · exact ⟨ho', zL⟩
      · exact ⟨(hsb.2 _ (hn q hq)).trans (N₁ q (.tail _ hq)).1, (N₁ q (.tail _ hq)).2⟩
    refine PyProof.Rows.assign_Name ?_
    refine wpAny_storeName_local hx (hloc ▸ F₂.ns) (fun h₃ hns hs₃ => ?_) (by show (env.scope.kind == .class || (env.scope.kind == .module && _)) = false; rw [hk]; rfl)
    rw [hloc] at hns hs₃
    refine wpAny_mono (turn i vs[i] s₁.heap.objs.size m₁ news₁ h₃ (tk + 1) o' (by simp [hlt]) hJ hn ⟨hc', hd'⟩ (F₂.set hns hs₃) (N₂.set hs₃)) (fun f s₃ q => ?_) fun _ _ q => q.elim
    cases f with
    | next => exact ⟨vs.length - (i + 1), by omega, i + 1, by omega, q⟩
    | cont => exact ⟨vs.length - (i + 1), by omega, i + 1, by omega, q⟩
    | brk => exact q
    | ret v => exact q
  · have hie : i = vs.length := by omega
    subst hie
    refine wpAny_pyNext_list_end hh hit hl₁ (by simp) fun h' he => ?_
    refine wpAny_execs_nil ?_
    refine done m₁ news₁ h' tk hJ ?_ ?_
    · exact Ext.fr (S := [s₁.heap.objs.size]) F₁ (fun b o n e => he b o (fun q => n (by rw [q]; exact .head _)) e) (fun q => zL.1 (List.mem_singleton.mp q).symm) (fun b hb => by rw [List.mem_singleton.mp hb]; exact zL.2)
    · exact fun q hq => ⟨he _ _ (hn q hq) (N₁ q (.tail _ hq)).1, (N₁ q (.tail _ hq)).2⟩
end
end Mine
end
section
open PySem PySem.W PyProof.Rows PySem.Calls Mine
local macro_rules | `(tactic| walk_at "m_units") => `(tactic| ((try simp only [Around.deeper_units, Around.in1_units]); (try dsimp only); omega))
local macro_rules | `(tactic| walk_at "m_depth") => `(tactic| ((try simp only [depth_deeper, depth_in1]); (try dsimp only); omega))
local macro_rules | `(tactic| walk_at "m_leave") => `(tactic| (intro h' tk' hs'; (with_reducible rename Fr _ _ _ _ => F9); (with_reducible rename News _ _ _ _ => N9); (have F' := F9.keeps hs'); (have N' := News.grown N9 hs'); clear F9 N9; (try dsimp only)))
section
open PySem PySem.W PyProof.Rows PySem.Calls
namespace Mine
section
open PySem PySem.W PyProof.Rows
theorem anew_Mh : True := by w_top off; trivial
theorem getD_get {vs : List Value} {k : Nat} (h : k < vs.length) : vs[k]? = some (vs.getD k .none) := by
  simp [List.getD, h]
theorem getD_mem {vs : List Value} {k : Nat} (h : k < vs.length) : vs.getD k .none ∈ vs := by
  simp [List.getD, h]
/-- the comparator's word: what < says of any two of vs -/
def LtAll (prog : Program) (w : World) (hb : Heap) (lt : Value → Value → Bool) (vs : List Value) : Prop :=
  ∀ v ∈ vs, ∀ u ∈ vs, ∀ (A : Around) (s : Shared) (Q E : Value → Shared → Prop), hb.StaysIn s.heap → A.units + 80 < cLine → (∀ tk, Q (.bool (lt v u)) { s with toks := tk }) →
    wpAny (model prog w) A (compareOp .Lt v u) Q E s
theorem LtAll.use {prog : Program} {w : World} {hb g : Heap} {lt : Value → Value → Bool} {vs : List Value} {v u : Value} {A : Around} {s : Shared} {Q E : Value → Shared → Prop} {L : Addr} {m : Str → Option Value}
    (H : LtAll prog w hb lt vs) (hbg : hb.StaysIn g) (F : Fr g L s.heap m) (hv : v ∈ vs) (hu : u ∈ vs) (hun : A.units + 80 < cLine) (h : ∀ tk, Q (.bool (lt v u)) { s with toks := tk }) :
    wpAny (model prog w) A (compareOp .Lt v u) Q E s := H v hv u hu A s Q E (stays_trans hbg F.keep) hun h
/-- _siftdown over the list's values, from the top -/
def sdn (lt : Value → Value → Bool) (x : Value) (pos : Nat) (vs : List Value) : List Value :=
  if 0 < pos then
    if lt x (vs.getD ((pos - 1) / 2) .none) = true then sdn lt x ((pos - 1) / 2) (vs.set pos (vs.getD ((pos - 1) / 2) .none)) else vs.set pos x
  else vs.set pos x
termination_by pos
decreasing_by omega
theorem half (n : Nat) (h : 0 < n) : ((n : Int) - 1).fdiv 2 = (((n - 1) / 2 : Nat) : Int) := by
  rw [Int.fdiv_eq_ediv_of_nonneg _ (by omega)]
  omega
theorem rsh1 {prog : Program} {w : World} {A : Around} {E : Value → Shared → Prop} {s : Shared} {n : Nat} {t u : Tok} {Q : Value → Shared → Prop} (hn : 0 < n) (h : Q (.int (((n - 1) / 2 : Nat) : Int) s.toks) { s with toks := s.toks + 1 }) :
    wpAny (model prog w) A (binaryOp .RShift (.int ((n : Int) - 1) t) (.int 1 u)) Q E s := by
  refine rshift_int (by decide) ?_
  have e : ((n : Int) - 1).fdiv (2 ^ Int.toNat 1) = (((n - 1) / 2 : Nat) : Int) := half n hn
  rw [e]
  exact h
end
local macro_rules | `(tactic| walk_at "subscriptTail") => `(tactic| ((with_reducible show wpAny _ _ (subscriptTail _ _ (Value.ref _) (Value.int _ _)) _ _ _); (with_unfolding_all refine' l_get ?N ?a ?b ?v ?_ ?z); (case N => k_asm); (case z => with_unfolding_all rfl); (case v => exact getD_get (by omega)); (case a => omega); (case b => omega); k_whole))
local macro_rules | `(tactic| walk_at "setItem ref int") => `(tactic| ((with_unfolding_all refine' l_set ?F ?N ?r ?a ?b ?c ?_); (case F => k_asm); (case N => k_asm); (case r => k_all); (case a => omega); (case b => omega); (case c => omega); k_whole; intro h' F' N'; (try k_sweep)))
local macro_rules | `(tactic| walk_at "binaryOp RShift int int") => `(tactic| (refine rsh1 (by omega) ?_))
section
open PySem PySem.W PyProof.Rows
def SubV (vs' vs : List Value) : Prop := ∀ v ∈ vs', v ∈ vs
theorem SubV.refl (vs : List Value) : SubV vs vs := fun _ h => h
theorem SubV.getD {vs' vs : List Value} {k : Nat} (h : SubV vs' vs) (hk : k < vs'.length) : vs'.getD k .none ∈ vs := h _ (getD_mem hk)
theorem SubV.set {vs' vs : List Value} {k : Nat} {x : Value} (h : SubV vs' vs) (hx : x ∈ vs) : SubV (vs'.set k x) vs := fun v hv => by
  rcases List.mem_or_eq_of_mem_set hv with q | q
  · exact h v q
  · exact q ▸ hx
end
local macro_rules | `(tactic| walk_at "compareOp Lt") => `(tactic| (refine' LtAll.use ?H ?hb ?F ?v ?u ?n ?_; (case H => assumption); (case hb => assumption); (case F => k_asm); (case v => first | assumption | exact SubV.getD (by assumption) (by omega)); (case u => first | assumption | exact SubV.getD (by assumption) (by omega)); (case n => walk_at "m_units"); k_whole; intro tk'))
section
open PySem PySem.W PyProof.Rows
structure SdI (lt : Value → Value → Bool) (s : Shared) (g : Heap) (L' hp : Addr) (x : Value) (t1 : Tok) (pos : Nat) (vs : List Value) (n' : Nat) (s' : Shared) : Prop where
  ex : ∃ (h : Heap) (tk : Nat) (t : Tok) (u : Str → Option Value) (vs' : List Value) (nn : Nat), s' = { s with heap := h, toks := tk } ∧
    Fr g L' h (fun y => (List.lookup y [(Str.ofString "pos", .int (n' : Int) t), (Str.ofString "newitem", x), (Str.ofString "startpos", .int 0 t1), (Str.ofString "heap", .ref hp)]).or (u y)) ∧
    News g L' h [(hp, listOf vs'.toArray nn)] ∧ n' < vs'.length ∧ vs'.length = vs.length ∧ sdn lt x n' vs' = sdn lt x pos vs ∧ SubV vs' vs
theorem siftdown_K {prog : Program} {w : World} {p : Program} {loose : List Str} {mean : ExcName → Option Value} {mg mb : Str → Option Value} {hb : Heap}
    (X : (hd.heap_39 w.params).In hb) (T : Top p loose mean mg mb hb)
    (lt : Value → Value → Bool) (A : Around) (s : Shared) (Q E : Value → Shared → Prop)
    (hp : Addr) (vs : List Value) (n : Nat) (pos : Nat) (t1 t2 : Tok) (H : LtAll prog w hb lt vs)
    (hst : hb.StaysIn s.heap) (ho : s.heap.get? hp = some (listOf vs.toArray n)) (h0 : hb.get? hp = none)
    (hdp : A.depth < 500) (hun : A.units + 100 < cLine) (h1 : pos < vs.length) (hlen : vs.length < 100)
    (hret : ∀ h' tk' n', Ext [hp] s.heap h' → h'.get? hp = some (listOf (sdn lt (vs.getD pos .none) pos vs).toArray n') → Q .none { s with heap := h', toks := tk' }) :
    wpAny (model prog w) A (call (.ref 42) [.ref hp, .int 0 t1, .int pos t2]) Q E s := by
  refine wpAny_call ?_
  have dum : PySem.Challenge.rw_ik0041_01.Holds → (hd.heap_39 w.params).In hb → True := fun _ _ => trivial
  revert dum; k_fill; intro _
  refine' enter (binds := [(Str.ofString "heap", .ref hp), (Str.ofString "startpos", .int 0 t1), (Str.ofString "pos", .int pos t2)]) [(hp, listOf vs.toArray n)] X T hst ?k1 ?k2 ?k3 ?k4 ?k6 ?k7 ?k5 ?k8 ?k9 ?k10 ?_
  case k1 => intro q hq; rw [List.mem_singleton.mp hq]; exact ⟨ho, h0⟩
  ((k_dflt ((case k2 => k_is); (case k3 => k_is); (case k4 => (simp only [recursionLimit]; omega)); (case k6 => exact BindsTo.of_eq rfl); (case k7 => exact locs rfl); (case k5 => decide); (case k8 => exact rfl); (case k9 => exact rfl); (case k10 => exact rfl))))
  intro g L' h₁ hg hbg hgs hs1 F N X' T' hL
  dsimp only
  k_fold
  (repeat (first | (k_unfold; (try dsimp only)) | ((fail_if_success (with_reducible show wpAny _ _ (exec (Stmt.While _ _ _ _) _) _ _ _)); walk1)))
  rename Heap => h₂
  rename Fr g L' _ _ => F₂
  rename News g L' _ _ => N₂
  have hx : vs.getD ((pos : Int).toNat) .none = vs.getD pos .none := by rw [Int.toNat_natCast]
  rw [hx] at F₂
  have hxm : vs.getD pos .none ∈ vs := getD_mem h1
  generalize vs.getD pos .none = x at *
  refine my_while (SdI lt s g L' hp x t1 pos vs) ?_ pos ?_
  · rintro n' s' ⟨h, tk, t, u, vs', nn, rfl, F₃, N₃, h3, h4, h5, h6⟩
    clear F₂ N₂
    have fin : ∀ h' tk' nn', (¬ 0 < n' ∨ lt x (vs'.getD ((n' - 1) / 2) .none) = false) → Ext [hp] s.heap h' → h'.get? hp = some (listOf (vs'.set n' x).toArray nn') → Q .none { s with heap := h', toks := tk' } := by
      intro h' tk' nn' hc he ho'
      refine hret h' tk' nn' he ?_
      rw [ho', ← h5, sdn]
      rcases hc with hc | hc
      · rw [if_neg hc]
      · rw [hc]; simp
    k_steps
    all_goals (try dsimp only)
    all_goals rename Fr g L' _ _ => F4
    all_goals rename News g L' _ _ => N4
    all_goals simp only [Int.toNat_natCast] at N4
    · have hc : lt x (vs'.getD ((n' - 1) / 2) .none) = true := by assumption
      have h9 : 0 < n' := by omega
      refine ⟨(n' - 1) / 2, by omega, ⟨_, _, _, _, _, _, rfl, fr_lk F4 ⟨rfl, rfl, rfl, rfl, trivial⟩, N4, ?_, ?_, ?_, ?_⟩⟩
      · rw [List.length_set]; omega
      · rw [List.length_set]; exact h4
      · rw [← h5]
        conv => rhs; rw [sdn]
        rw [if_pos h9, hc, if_pos rfl]
      · exact h6.set (h6.getD (by omega))
    · refine fin _ _ _ (.inr ?_) (ext_of hg F4) (N4 _ (.head _)).1
      first
        | assumption
    · refine fin _ _ _ (.inl ?_) (ext_of hg F4) (N4 _ (.head _)).1
      omega
  · exact ⟨_, _, t2, _, vs, n, rfl, fr_lk F₂ ⟨rfl, rfl, rfl, rfl, trivial⟩, N₂, h1, rfl, rfl, SubV.refl _⟩
end
section
open PySem PySem.W PyProof.Rows PySem.Calls
theorem anew_Mi : True := by w_top off; trivial
theorem after_hp {g h h' : Heap} {L hp : Addr} {m : Str → Option Value} {o o' : Obj} {rest : List (Addr × Obj)} (F : Fr g L h m) (N : News g L h ((hp, o) :: rest)) (he : Ext [hp] h h') (ho' : h'.get? hp = some o') (hr : ∀ q ∈ rest, q.1 ≠ hp) :
    Fr g L h' m ∧ News g L h' ((hp, o') :: rest) := by
  have z := N (hp, o) (.head _)
  refine ⟨he.fr F (fun q => z.2.1 (List.mem_singleton.mp q).symm) fun b hb => by rw [List.mem_singleton.mp hb]; exact z.2.2, fun q hq => ?_⟩
  rcases List.mem_cons.mp hq with rfl | hq
  · exact ⟨ho', z.2⟩
  · exact ⟨he q.1 q.2 (fun e => hr q hq (List.mem_singleton.mp e)) (N q (.tail _ hq)).1, (N q (.tail _ hq)).2⟩
theorem l_len {prog : Program} {w : World} {A : Around} {E : Value → Shared → Prop} {s : Shared} {h₀ : Heap} {L D : Addr} {rest : List (Addr × Obj)} {vs : List Value} {n : Nat} {Q : Value → Shared → Prop}
    (N : News h₀ L s.heap ((D, listOf vs.toArray n) :: rest)) (hlen : vs.length < 1000) (h : ∀ t tk, Q (.int (vs.length : Int) t) { s with toks := tk }) : wpAny (model prog w) A (call (.builtin "len") [.ref D]) Q E s := by
  have hl : s.heap.IsList D vs.toArray := PySem.IsL.isList (n := n) (N _ (.head _)).1
  refine call_len_list hl (by rw [List.size_toArray]; omega) ?_
  rw [List.size_toArray]
  exact h _ _
/-- _siftup's first loop: the smaller child goes up till a leaf is met -/
def sup (lt : Value → Value → Bool) (pos : Nat) (vs : List Value) : Nat × List Value :=
  if h : 2 * pos + 1 < vs.length then
    let c := if 2 * pos + 1 + 1 < vs.length ∧ lt (vs.getD (2 * pos + 1) .none) (vs.getD (2 * pos + 1 + 1) .none) = false then 2 * pos + 1 + 1 else 2 * pos + 1
    sup lt c (vs.set pos (vs.getD c .none))
  else (pos, vs)
termination_by vs.length - pos
decreasing_by simp only [List.length_set]; split <;> omega
theorem sup_one {lt : Value → Value → Bool} {pos : Nat} {vs : List Value} (h : 2 * pos + 1 < vs.length) (hc : ¬ 2 * pos + 1 + 1 < vs.length ∨ lt (vs.getD (2 * pos + 1) .none) (vs.getD (2 * pos + 1 + 1) .none) = true) :
    sup lt (2 * pos + 1) (vs.set pos (vs.getD (2 * pos + 1) .none)) = sup lt pos vs := by
  conv => rhs; rw [sup]
  rw [dif_pos h]
  have e : ¬ (2 * pos + 1 + 1 < vs.length ∧ lt (vs.getD (2 * pos + 1) .none) (vs.getD (2 * pos + 1 + 1) .none) = false) := by
    rintro ⟨a, b⟩
    rcases hc with hc | hc
    · exact hc a
    · rw [b] at hc; cases hc
  simp only [if_neg e]
theorem sup_two {lt : Value → Value → Bool} {pos : Nat} {vs : List Value} (h : 2 * pos + 1 + 1 < vs.length) (hc : lt (vs.getD (2 * pos + 1) .none) (vs.getD (2 * pos + 1 + 1) .none) = false) :
    sup lt (2 * pos + 1 + 1) (vs.set pos (vs.getD (2 * pos + 1 + 1) .none)) = sup lt pos vs := by
  conv => rhs; rw [sup]
  rw [dif_pos (by omega)]
  have e : (2 * pos + 1 + 1 < vs.length ∧ lt (vs.getD (2 * pos + 1) .none) (vs.getD (2 * pos + 1 + 1) .none) = false) := ⟨h, hc⟩
  simp only [if_pos e]
theorem sup_end {lt : Value → Value → Bool} {pos : Nat} {vs : List Value} (h : ¬ 2 * pos + 1 < vs.length) : sup lt pos vs = (pos, vs) := by
  rw [sup, dif_neg h]
def siftupL (lt : Value → Value → Bool) (vs : List Value) : List Value :=
  let r := sup lt 0 vs
  sdn lt (vs.getD 0 .none) r.1 (r.2.set r.1 (vs.getD 0 .none))
local macro_rules | `(tactic| walk_at "call builtin:len") => `(tactic| ((refine' l_len ?N ?l ?_); (case N => k_asm); (case l => omega); k_whole; intro t' tk'))
structure SuI (lt : Value → Value → Bool) (s : Shared) (g : Heap) (L' hp : Addr) (x : Value) (t1 : Tok) (vs : List Value) (n' : Nat) (s' : Shared) : Prop where
  ex : ∃ (h : Heap) (tk : Nat) (pos : Nat) (t t2 t3 : Tok) (u : Str → Option Value) (vs' : List Value) (nn : Nat), s' = { s with heap := h, toks := tk } ∧ n' = vs.length - pos ∧
    Fr g L' h (fun y => (List.lookup y [(Str.ofString "childpos", .int ((2 * pos + 1 : Nat) : Int) t3), (Str.ofString "pos", .int (pos : Int) t), (Str.ofString "newitem", x), (Str.ofString "startpos", .int 0 t1), (Str.ofString "endpos", .int (vs.length : Int) t2), (Str.ofString "heap", .ref hp)]).or (u y)) ∧
    News g L' h [(hp, listOf vs'.toArray nn)] ∧ pos < vs'.length ∧ vs'.length = vs.length ∧ sup lt pos vs' = sup lt 0 vs ∧ SubV vs' vs
theorem siftup_K {prog : Program} {w : World} {p : Program} {loose : List Str} {mean : ExcName → Option Value} {mg mb : Str → Option Value} {hb : Heap}
    (X : (hd.heap_39 w.params).In hb) (T : Top p loose mean mg mb hb)
    (lt : Value → Value → Bool) (A : Around) (s : Shared) (Q E : Value → Shared → Prop)
    (hp : Addr) (vs : List Value) (n : Nat) (t1 : Tok) (H : LtAll prog w hb lt vs)
    (hst : hb.StaysIn s.heap) (ho : s.heap.get? hp = some (listOf vs.toArray n)) (h0 : hb.get? hp = none)
    (hdp : A.depth < 490) (hun : A.units + 120 < cLine) (h1 : 0 < vs.length) (hlen : vs.length < 100)
    (hret : ∀ h' tk' n', Ext [hp] s.heap h' → h'.get? hp = some (listOf (siftupL lt vs).toArray n') → Q .none { s with heap := h', toks := tk' }) :
    wpAny (model prog w) A (call (.ref 49) [.ref hp, .int 0 t1]) Q E s := by
  refine wpAny_call ?_
  have dum : PySem.Challenge.rw_ik0041_01.Holds → (hd.heap_39 w.params).In hb → True := fun _ _ => trivial
  revert dum; k_fill; intro _
  refine' enter (binds := [(Str.ofString "heap", .ref hp), (Str.ofString "pos", .int 0 t1)]) [(hp, listOf vs.toArray n)] X T hst ?k1 ?k2 ?k3 ?k4 ?k6 ?k7 ?k5 ?k8 ?k9 ?k10 ?_
  case k1 => intro q hq; rw [List.mem_singleton.mp hq]; exact ⟨ho, h0⟩
  ((k_dflt ((case k2 => k_is); (case k3 => k_is); (case k4 => (simp only [recursionLimit]; omega)); (case k6 => exact BindsTo.of_eq rfl); (case k7 => exact locs rfl); (case k5 => decide); (case k8 => exact rfl); (case k9 => exact rfl); (case k10 => exact rfl))))
  intro g L' h₁ hg hbg hgs hs1 F N X' T' hL
  dsimp only
  k_fold
  (repeat (first | (k_unfold; (try dsimp only)) | ((fail_if_success (with_reducible show wpAny _ _ (exec (Stmt.While _ _ _ _) _) _ _ _)); walk1)))
  rename Heap => h₂
  rename Fr g L' _ _ => F₂
  rename News g L' _ _ => N₂
  have hx : vs.getD (Int.toNat 0) .none = vs.getD 0 .none := rfl
  rw [hx] at F₂
  have hxm : vs.getD 0 .none ∈ vs := getD_mem h1
  have hres : siftupL lt vs = sdn lt (vs.getD 0 .none) (sup lt 0 vs).1 ((sup lt 0 vs).2.set (sup lt 0 vs).1 (vs.getD 0 .none)) := rfl
  generalize vs.getD 0 .none = x at *
  refine my_while (SuI lt s g L' hp x t1 vs) ?_ vs.length ?_
  · rintro n' s' ⟨h, tk, pos, t, t2, t3, u, vs', nn, rfl, h2, F₃, N₃, h3, h4, h5, h6⟩
    clear F₂ N₂
    k_steps
    all_goals (try dsimp only)
    all_goals rename Fr g L' _ _ => F4
    all_goals rename News g L' _ _ => N4
    all_goals (have e1 : ((2 * pos + 1 : Nat) : Int).toNat = 2 * pos + 1 := Int.toNat_natCast _)
    all_goals (have e2 : (((2 * pos + 1 : Nat) : Int) + 1).toNat = 2 * pos + 1 + 1 := by omega)
    all_goals (try simp only [e1, e2, Int.toNat_natCast] at *)
    · refine ⟨vs.length - (2 * pos + 1), by omega, ⟨_, _, 2 * pos + 1, _, _, _, _, _, _, rfl, rfl, fr_lk F4 ⟨rfl, rfl, rfl, rfl, rfl, rfl, trivial⟩, N4, ?_, ?_, ?_, ?_⟩⟩
      · rw [List.length_set]; omega
      · rw [List.length_set]; exact h4
      · rw [← h5]; exact sup_one (by omega) (.inr (by assumption))
      · exact h6.set (h6.getD (by omega))
    · refine ⟨vs.length - (2 * pos + 1 + 1), by omega, ⟨_, _, 2 * pos + 1 + 1, _, _, _, _, _, _, rfl, rfl, fr_lk F4 ⟨rfl, rfl, rfl, rfl, rfl, rfl, trivial⟩, N4, ?_, ?_, ?_, ?_⟩⟩
      · rw [List.length_set]; omega
      · rw [List.length_set]; exact h4
      · rw [← h5]; exact sup_two (by omega) (by assumption)
      · exact h6.set (h6.getD (by omega))
    · refine ⟨vs.length - (2 * pos + 1), by omega, ⟨_, _, 2 * pos + 1, _, _, _, _, _, _, rfl, rfl, fr_lk F4 ⟨rfl, rfl, rfl, rfl, rfl, rfl, trivial⟩, N4, ?_, ?_, ?_, ?_⟩⟩
      · rw [List.length_set]; omega
      · rw [List.length_set]; exact h4
      · rw [← h5]; exact sup_one (by omega) (.inl (by omega))
      · exact h6.set (h6.getD (by omega))
    · have hS : SubV (vs'.set pos x) vs := h6.set hxm
      refine siftdown_K X T lt _ _ _ _ hp _ _ pos t1 _ (fun v hv u hu => H v (hS v hv) u (hS u hu)) (stays_trans hbg F4.keep) (N4 _ (.head _)).1 h0 ?_ ?_ ?_ ?_ fun h' tk' n' he ho' => ?_
      · show A.depth + 1 < 500; omega
      · show A.units + 3 + 100 < cLine; omega
      · rw [List.length_set]; exact h3
      · rw [List.length_set]; omega
      · obtain ⟨F5, N5⟩ := after_hp F4 N4 he ho' (fun _ q => nomatch q)
        clear F4 N4
        dsimp only
        k_steps
        have e3 : (vs'.set pos x).getD pos .none = x := by simp [List.getD, h3]
        have e4 : sup lt 0 vs = (pos, vs') := by rw [← h5]; exact sup_end (by omega)
        have e5 : siftupL lt vs = sdn lt ((vs'.set pos x).getD pos .none) pos (vs'.set pos x) := by rw [e3, hres, e4]
        exact hret _ _ n' (ext_of hg F5) (by rw [e5]; exact (N5 _ (.head _)).1)
  · exact ⟨_, _, 0, _, _, _, _, vs, n, rfl, rfl, fr_lk F₂ ⟨rfl, rfl, rfl, rfl, rfl, rfl, trivial⟩, N₂, h1, rfl, rfl, SubV.refl _⟩
end
section
open PySem PySem.W PyProof.Rows PySem.Calls
theorem anew_Mj : True := by w_top off; trivial
theorem l_truthy {prog : Program} {w : World} {A : Around} {E : Value → Shared → Prop} {s : Shared} {h₀ : Heap} {L D : Addr} {rest : List (Addr × Obj)} {vs : List Value} {n : Nat} {Q : Bool → Shared → Prop}
    (N : News h₀ L s.heap ((D, listOf vs.toArray n) :: rest)) (hlen : vs.length < 1000) (h : ∀ tk, Q (!vs.isEmpty) { s with toks := tk }) : wpAny (model prog w) A (truthy (.ref D)) Q E s := by
  have hl : s.heap.IsList D vs.toArray := PySem.IsL.isList (n := n) (N _ (.head _)).1
  refine wpAny_truthy_list hl (by rw [List.size_toArray]; omega) ?_
  rw [List.isEmpty_toArray]
  exact h _
def popL (lt : Value → Value → Bool) (us : List Value) (y : Value) : Value × List Value := match us with
  | [] => (y, [])
  | u :: r => (u, siftupL lt (y :: r))
end
local macro_rules | `(tactic| walk_at "call builtin:len") => `(tactic| ((refine' l_len ?N ?l ?_); (case N => k_asm); (case l => simp only [List.length_append, List.length_cons, List.length_nil] at *; omega); k_whole; intro t' tk'))
local macro_rules | `(tactic| walk_at "call builtin:list.append") => `(tactic| ((refine' l_append ?F ?N ?r ?l ?_); (case F => k_asm); (case N => k_asm); (case r => k_all); (case l => omega); k_whole; intro h' F' N'; (try k_sweep)))
local macro_rules | `(tactic| walk_at "call builtin:list.pop") => `(tactic| ((refine' l_pop ?F ?N ?r ?l ?_); (case F => k_asm); (case N => k_asm); (case r => k_all); (case l => omega); k_whole; intro h' F' N'; (try k_sweep)))
local macro_rules | `(tactic| walk_at "truthy ref") => `(tactic| ((refine' l_truthy ?N ?l ?_); (case N => k_asm); (case l => simp only [List.length_cons, List.length_nil] at *; omega); k_whole; intro tk'; (try simp only [List.isEmpty_nil, List.isEmpty_cons, Bool.not_true, Bool.not_false])))
section
open PySem PySem.W PyProof.Rows PySem.Calls
theorem heappush_K {prog : Program} {w : World} {p : Program} {loose : List Str} {mean : ExcName → Option Value} {mg mb : Str → Option Value} {hb : Heap}
    (X : (hd.heap_39 w.params).In hb) (T : Top p loose mean mg mb hb)
    (lt : Value → Value → Bool) (A : Around) (s : Shared) (Q E : Value → Shared → Prop)
    (hp : Addr) (vs : List Value) (v : Value) (n : Nat) (H : LtAll prog w hb lt (vs ++ [v]))
    (hst : hb.StaysIn s.heap) (ho : s.heap.get? hp = some (listOf vs.toArray n)) (h0 : hb.get? hp = none)
    (hdp : A.depth < 490) (hun : A.units + 120 < cLine) (hlen : vs.length < 99)
    (hret : ∀ h' tk' n', Ext [hp] s.heap h' → h'.get? hp = some (listOf (sdn lt v vs.length (vs ++ [v])).toArray n') → Q .none { s with heap := h', toks := tk' }) :
    wpAny (model prog w) A (call (.ref 28) [.ref hp, v]) Q E s := by
  refine wpAny_call ?_
  have dum : PySem.Challenge.rw_ik0041_01.Holds → (hd.heap_39 w.params).In hb → True := fun _ _ => trivial
  revert dum; k_fill; intro _
  refine' enter (binds := [(Str.ofString "heap", .ref hp), (Str.ofString "item", v)]) [(hp, listOf vs.toArray n)] X T hst ?k1 ?k2 ?k3 ?k4 ?k6 ?k7 ?k5 ?k8 ?k9 ?k10 ?_
  case k1 => intro q hq; rw [List.mem_singleton.mp hq]; exact ⟨ho, h0⟩
  ((k_dflt ((case k2 => k_is); (case k3 => k_is); (case k4 => (simp only [recursionLimit]; omega)); (case k6 => exact BindsTo.of_eq rfl); (case k7 => exact locs rfl); (case k5 => decide); (case k8 => exact rfl); (case k9 => exact rfl); (case k10 => exact rfl))))
  intro g L' h₁ hg hbg hgs hs1 F N X' T' hL
  dsimp only
  k_fold
  k_steps
  rename Fr g L' _ _ => F4
  rename News g L' _ _ => N4
  have e : (((vs ++ [v]).length : Int) - 1) = ((vs.length : Nat) : Int) := by simp
  rw [e]
  refine siftdown_K X T lt _ _ _ _ hp (vs ++ [v]) _ vs.length _ _ H (stays_trans hbg F4.keep) (N4 _ (.head _)).1 h0 ?_ ?_ ?_ ?_ fun h' tk' n' he ho' => ?_
  · show A.depth + 1 < 500; omega
  · show A.units + 3 + 100 < cLine; omega
  · simp
  · simp; omega
  · obtain ⟨F5, N5⟩ := after_hp F4 N4 he ho' (fun _ q => nomatch q)
    clear F4 N4
    dsimp only
    k_steps
    have e3 : (vs ++ [v]).getD vs.length .none = v := by simp [List.getD]
    rw [e3] at ho'
    exact hret _ _ n' (ext_of hg F5) ho'
theorem heappop_K {prog : Program} {w : World} {p : Program} {loose : List Str} {mean : ExcName → Option Value} {mg mb : Str → Option Value} {hb : Heap}
    (X : (hd.heap_39 w.params).In hb) (T : Top p loose mean mg mb hb)
    (lt : Value → Value → Bool) (A : Around) (s : Shared) (Q E : Value → Shared → Prop)
    (hp : Addr) (us : List Value) (y : Value) (n : Nat) (H : LtAll prog w hb lt (us ++ [y]))
    (hst : hb.StaysIn s.heap) (ho : s.heap.get? hp = some (listOf (us ++ [y]).toArray n)) (h0 : hb.get? hp = none)
    (hdp : A.depth < 480) (hun : A.units + 140 < cLine) (hlen : us.length < 99)
    (hret : ∀ h' tk' n', Ext [hp] s.heap h' → h'.get? hp = some (listOf (popL lt us y).2.toArray n') → Q (popL lt us y).1 { s with heap := h', toks := tk' }) :
    wpAny (model prog w) A (call (.ref 35) [.ref hp]) Q E s := by
  refine wpAny_call ?_
  have dum : PySem.Challenge.rw_ik0041_01.Holds → (hd.heap_39 w.params).In hb → True := fun _ _ => trivial
  revert dum; k_fill; intro _
  refine' enter (binds := [(Str.ofString "heap", .ref hp)]) [(hp, listOf (us ++ [y]).toArray n)] X T hst ?k1 ?k2 ?k3 ?k4 ?k6 ?k7 ?k5 ?k8 ?k9 ?k10 ?_
  case k1 => intro q hq; rw [List.mem_singleton.mp hq]; exact ⟨ho, h0⟩
  ((k_dflt ((case k2 => k_is); (case k3 => k_is); (case k4 => (simp only [recursionLimit]; omega)); (case k6 => exact BindsTo.of_eq rfl); (case k7 => exact locs rfl); (case k5 => decide); (case k8 => exact rfl); (case k9 => exact rfl); (case k10 => exact rfl))))
  intro g L' h₁ hg hbg hgs hs1 F N X' T' hL
  dsimp only
  k_fold
  cases us with
  | nil =>
    k_steps
    rename Fr g L' _ _ => F4
    rename News g L' _ _ => N4
    exact hret _ _ _ (ext_of hg F4) (N4 _ (.head _)).1
  | cons u r =>
    k_steps
    rename Fr g L' _ _ => F4
    rename News g L' _ _ => N4
    have hS : SubV (y :: r) (u :: r ++ [y]) := fun v hv => by
      rcases List.mem_cons.mp hv with q | q
      · rw [q]; simp
      · simp [q]
    refine siftup_K X T lt _ _ _ _ hp (y :: r) _ _ (fun v hv u hu => H v (hS v hv) u (hS u hu)) (stays_trans hbg F4.keep) (N4 _ (.head _)).1 h0 ?_ ?_ ?_ ?_ fun h' tk' n' he ho' => ?_
    · show A.depth + 1 < 490; omega
    · show A.units + 3 + 120 < cLine; omega
    · simp
    · simp only [List.length_cons] at *; omega
    · obtain ⟨F5, N5⟩ := after_hp F4 N4 he ho' (fun _ q => nomatch q)
      clear F4 N4
      dsimp only
      k_steps
      exact hret _ _ n' (ext_of hg F5) ho'
end
section
open PySem PySem.W PyProof.Rows PySem.Calls PySem.SeqAt
open PySem.AutoSeq1 (wpAny_loadPart')
open PySem.MeetsSeq PySem.MeetsSeq2 PySem.MeetsSeq3
theorem anew_Mc : True := by w_top off; trivial
/-- Python's < of two lists of strs -/
def ltStrs : List Str → List Str → Bool
  | [], [] => false
  | [], _ :: _ => true
  | _ :: _, [] => false
  | x :: xs, y :: ys => if x == y then ltStrs xs ys else decide (x.cps.toList < y.cps.toList)
theorem lt_loop (l b : Addr) (vs us : List Value) (xs ys : List Str) (hx : StrsAre vs xs) (hy : StrsAre us ys) (n n2 : Nat) (dd dd2 : Option Addr) (sl sl2 : Array (Option Value)) (k : Nat) :
    ∀ i : Nat, vs.length - i = k → i ≤ vs.length → i ≤ us.length → Meets (Builtin.«list.__eq__.loop» ⟨[.ref l, .ref b, rawInt i, rawInt 0], []⟩)
      (fun A R s => s.heap.get? l = some { cls := .type "list", dict := dd, data := .seq vs.toArray n, slots := sl } ∧ s.heap.get? b = some { cls := .type "list", dict := dd2, data := .seq us.toArray n2, slots := sl2 } ∧
        R (.ok (.ret (.bool (ltStrs (xs.drop i) (ys.drop i))))) s) := by
  have lx := hx.len_eq
  have ly := hy.len_eq
  induction k with
  | zero =>
    intro i hk hi1 hi2 prog w A R s h
    obtain ⟨hp, g, d, tk, os⟩ := s; obtain ⟨hl, hb, h⟩ := h
    wp_walk using wpAny_loadPart' hl, wpAny_loadPart' hb
    have e1 : vs.toArray[((i : Nat) : Int).toNat]? = none := by simp; omega
    have hd : xs.drop i = [] := by simp; omega
    rw [hd] at h
    rw [e1]
    wp_walk using wpAny_loadPart' hl, wpAny_loadPart' hb
    show R (.ok (.ret (.bool (decide (vs.toArray.size < us.toArray.size))))) _
    rw [List.size_toArray, List.size_toArray]
    cases hz : ys.drop i with
    | nil =>
      have : us.length ≤ i := by rw [ly]; simpa using hz
      rw [hz] at h
      have e : decide (vs.length < us.length) = false := by simp; omega
      rw [e]; simpa [ltStrs] using h
    | cons y r =>
      have : i < us.length := by
        rcases Nat.lt_or_ge i us.length with q | q
        · exact q
        · rw [List.drop_eq_nil_of_le (by omega)] at hz; cases hz
      rw [hz] at h
      have e : decide (vs.length < us.length) = true := by simp; omega
      rw [e]; simpa [ltStrs] using h
  | succ k ih =>
    intro i hk hi1 hi2 prog w A R s h
    obtain ⟨hp, g, d, tk, os⟩ := s; obtain ⟨hl, hb, h⟩ := h
    wp_walk using wpAny_loadPart' hl, wpAny_loadPart' hb
    have hlt : i < xs.length := by omega
    obtain ⟨t, ht⟩ := hx.at (j := i) (y := xs[i]) (by simp [hlt])
    have e1 : vs.toArray[((i : Nat) : Int).toNat]? = some (.str xs[i] t) := by simpa using ht
    have dx : xs.drop i = xs[i] :: xs.drop (i + 1) := List.drop_eq_getElem_cons hlt
    rw [e1]
    rcases Nat.lt_or_ge i ys.length with hlt2 | hge
    · obtain ⟨u, hu⟩ := hy.at (j := i) (y := ys[i]) (by simp [hlt2])
      have e2 : us.toArray[((i : Nat) : Int).toNat]? = some (.str ys[i] u) := by simpa using hu
      have dy : ys.drop i = ys[i] :: ys.drop (i + 1) := List.drop_eq_getElem_cons hlt2
      rw [dx, dy, ltStrs] at h
      rw [e2]
      have hc : ((i : Int) + 1) = ((i + 1 : Nat) : Int) := by push_cast; rfl
      refine wpAny_bind (EqAt.str_str xs[i] t ys[i] u prog w _ _ ?_)
      cases hb' : (xs[i] == ys[i]) with
      | true =>
        rw [hb', if_pos rfl] at h
        wp_walk
        rw [hc]
        exact ⟨plainId_quiet plain_eq_loop _, codeAny_builtin entry_eq_loop (by
          rw [Around.under_plainId plain_eq_loop _]
          exact ih (i + 1) (by omega) (by omega) (by omega) prog w A R _ ⟨hl, hb, h⟩)⟩
      | false =>
        rw [hb', if_neg (by simp)] at h
        wp_walk using wpAny_loadPart' hl, wpAny_loadPart' hb
        rw [e1, e2]
        refine wpAny_bind (m := richCompare .Lt (.str xs[i] t) (.str ys[i] u)) ?_
        refine PyProof.Rows.lt_str (x := xs[i]) (y := ys[i]) ?_
        exact wpAny_pure h
    · have e2 : us.toArray[((i : Nat) : Int).toNat]? = none := by simp; omega
      have dy : ys.drop i = [] := by simp; omega
      rw [dx, dy, ltStrs] at h
      rw [e2]
      wp_walk using wpAny_loadPart' hl, wpAny_loadPart' hb
      show R (.ok (.ret (.bool (decide (vs.toArray.size < us.toArray.size))))) _
      rw [List.size_toArray, List.size_toArray]
      have e : decide (vs.length < us.length) = false := by simp; omega
      rw [e]; exact h
theorem list_lt_meets (l b : Addr) (vs us : List Value) (xs ys : List Str) (hx : StrsAre vs xs) (hy : StrsAre us ys) (n n2 : Nat) (dd dd2 : Option Addr) (sl sl2 : Array (Option Value)) :
    Meets (Builtin.«list.__lt__» ⟨[.ref l, .ref b], []⟩)
      (fun A R s => s.heap.get? l = some { cls := .type "list", dict := dd, data := .seq vs.toArray n, slots := sl } ∧ s.heap.get? b = some { cls := .type "list", dict := dd2, data := .seq us.toArray n2, slots := sl2 } ∧
        R (.ok (.ret (.bool (ltStrs xs ys)))) s) := by
  intro prog w A R s h
  obtain ⟨hp, g, d, tk, os⟩ := s; obtain ⟨hl, hb, h⟩ := h
  have f3 := AutoSeq1.sub_list_list
  wp_walk using wpAny_loadPart' hl, wpAny_loadPart' hb
  exact ⟨plainId_quiet plain_eq_loop _, codeAny_builtin entry_eq_loop (by
    rw [Around.under_plainId plain_eq_loop _]
    exact lt_loop l b vs us xs ys hx hy n n2 dd dd2 sl sl2 _ 0 rfl (Nat.zero_le _) (Nat.zero_le _) prog w A R _ ⟨hl, hb, by simpa using h⟩)⟩
section
variable {prog : Program} {w : World} {A : Around} {E : Value → Shared → Prop} {s : Shared} {Q : Value → Shared → Prop}
theorem cmp_lt_strs {l b : Addr} {vs us : List Value} {xs ys : List Str} (hl : s.heap.IsList l vs.toArray) (hb : s.heap.IsList b us.toArray) (hx : StrsAre vs xs) (hy : StrsAre us ys) (hu : A.units < cLine)
    (h : Q (.bool (ltStrs xs ys)) s) : wpAny (model prog w) A (compareOp .Lt (.ref l) (.ref b)) Q E s := by
  obtain ⟨⟨cls, dd, data, sl⟩, ho, hc, n, hd⟩ := id hl
  obtain ⟨⟨cls2, dd2, data2, sl2⟩, ho2, hc2, n2, hd2⟩ := id hb
  simp only at hc hd hc2 hd2
  subst hc hd hc2 hd2
  refine cmp_ofLt ?_
  exact richCompare_meets_room (op := .Lt) ⟨_, ho, rfl⟩ ⟨_, ho2, rfl⟩ F.slot_list_lt F.entry_list_lt (F.args_list_lt_2 _ _) (list_lt_meets l b vs us xs ys hx hy n n2 dd dd2 sl sl2)
    ⟨ho, ho2, show Value.bool (ltStrs xs ys) ≠ Value.notImplemented ∧ Q (.bool (ltStrs xs ys)) s from ⟨(fun x => nomatch x), h⟩⟩ hu
theorem cmp_ne_nil {l b : Addr} {vs : List Value} (hl : s.heap.IsList l vs.toArray) (hb : s.heap.IsList b ([] : List Value).toArray) (hu : A.units < cLine)
    (h : Q (.bool (!vs.isEmpty)) s) : wpAny (model prog w) A (compareOp .NotEq (.ref l) (.ref b)) Q E s := by
  refine cmp_ofNotEq ?_
  cases vs with
  | nil => exact RcNeAt.lists (e := fun _ => true) hl hb rfl hu (fun j h1 => absurd h1 (Nat.not_lt_zero _)) prog w E Q h
  | cons v r => exact RcNeAt.lists_lengths hl hb (by simp) hu prog w E Q h
end
end
section
open PySem PySem.W PyProof.Rows PySem.Calls
theorem anew_Mp : True := by w_top off; trivial
theorem snoc_cases (l : List Value) : l = [] ∨ ∃ us y, l = us ++ [y] := by
  rcases List.eq_nil_or_concat l with h | ⟨us, y, h⟩
  · exact .inl h
  · exact .inr ⟨us, y, by rw [h, List.concat_eq_append]⟩
def pushOne (lt : Value → Value → Bool) (hp : List Value) (v : Value) : List Value := sdn lt v hp.length (hp ++ [v])
def pushAll (lt : Value → Value → Bool) (vs : List Value) : List Value := vs.foldl (pushOne lt) []
def popN (lt : Value → Value → Bool) : Nat → List Value → List Value
  | 0, _ => []
  | n + 1, vs => (popL lt vs.dropLast (vs.getLastD .none)).1 :: popN lt n (popL lt vs.dropLast (vs.getLastD .none)).2
theorem sdn_length (lt : Value → Value → Bool) (x : Value) (pos : Nat) (vs : List Value) : (sdn lt x pos vs).length = vs.length := by
  fun_induction sdn lt x pos vs with
  | case1 pos vs h hc ih => rw [ih, List.length_set]
  | case2 pos vs h hc => rw [List.length_set]
  | case3 pos vs h => rw [List.length_set]
theorem sdn_sub (lt : Value → Value → Bool) (x : Value) (pos : Nat) (vs ws : List Value) (hx : x ∈ ws) (hp : pos < vs.length) (h : SubV vs ws) : SubV (sdn lt x pos vs) ws := by
  fun_induction sdn lt x pos vs with
  | case1 pos vs h0 hc ih => exact ih (by rw [List.length_set]; omega) (h.set (h.getD (by omega)))
  | case2 pos vs h0 hc => exact h.set hx
  | case3 pos vs h0 => exact h.set hx
theorem sup_len (lt : Value → Value → Bool) (pos : Nat) (vs : List Value) : (sup lt pos vs).2.length = vs.length := by
  fun_induction sup lt pos vs with
  | case1 pos vs h c ih => rw [ih, List.length_set]
  | case2 pos vs h => rfl
theorem sup_lt (lt : Value → Value → Bool) (pos : Nat) (vs : List Value) (hp : pos < vs.length) : (sup lt pos vs).1 < vs.length := by
  fun_induction sup lt pos vs with
  | case1 pos vs h c ih =>
    rw [List.length_set] at ih
    refine ih ?_
    show (if _ then _ else _) < _
    split
    · rename_i hh; exact hh.1
    · exact h
  | case2 pos vs h => exact hp
theorem sup_sub (lt : Value → Value → Bool) (pos : Nat) (vs ws : List Value) (h : SubV vs ws) : SubV (sup lt pos vs).2 ws := by
  fun_induction sup lt pos vs with
  | case1 pos vs h0 c ih =>
    refine ih (h.set (h.getD ?_))
    show (if _ then _ else _) < _
    split
    · rename_i hh; exact hh.1
    · exact h0
  | case2 pos vs h0 => exact h
theorem siftupL_length (lt : Value → Value → Bool) (vs : List Value) : (siftupL lt vs).length = vs.length := by
  unfold siftupL
  rw [sdn_length, List.length_set, sup_len]
theorem siftupL_sub (lt : Value → Value → Bool) (vs ws : List Value) (h0 : 0 < vs.length) (h : SubV vs ws) : SubV (siftupL lt vs) ws := by
  unfold siftupL
  have hx : vs.getD 0 .none ∈ ws := h.getD h0
  refine sdn_sub _ _ _ _ _ hx ?_ ((sup_sub lt 0 vs ws h).set hx)
  rw [List.length_set, sup_len]
  exact sup_lt lt 0 vs h0
theorem popL_length (lt : Value → Value → Bool) (us : List Value) (y : Value) : (popL lt us y).2.length = us.length := by
  cases us with
  | nil => rfl
  | cons u r => exact siftupL_length lt (y :: r)
theorem popL_sub (lt : Value → Value → Bool) (us ws : List Value) (y : Value) (h : SubV (us ++ [y]) ws) : SubV (popL lt us y).2 ws := by
  cases us with
  | nil => exact fun _ q => nomatch q
  | cons u r => exact siftupL_sub lt (y :: r) ws (Nat.succ_pos _) fun v hv => h v (by simp at hv ⊢; rcases hv with hv | hv <;> simp [hv])
theorem popN_snoc (lt : Value → Value → Bool) (n : Nat) (us : List Value) (y : Value) : popN lt (n + 1) (us ++ [y]) = (popL lt us y).1 :: popN lt n (popL lt us y).2 := by
  unfold popN
  rw [List.dropLast_concat, List.getLastD_concat]
  cases n <;> rfl
theorem pushAll_snoc (lt : Value → Value → Bool) (vs : List Value) (v : Value) : pushAll lt (vs ++ [v]) = pushOne lt (pushAll lt vs) v := by
  unfold pushAll
  rw [List.foldl_append]
  rfl
theorem pushOne_length (lt : Value → Value → Bool) (vs : List Value) (v : Value) : (pushOne lt vs v).length = vs.length + 1 := by
  unfold pushOne
  rw [sdn_length]
  simp
theorem pushOne_sub (lt : Value → Value → Bool) (vs ws : List Value) (v : Value) (hv : v ∈ ws) (h : SubV vs ws) : SubV (pushOne lt vs v) ws :=
  sdn_sub _ _ _ _ _ hv (by simp) fun x hx => (List.mem_append.mp hx).elim (h x) fun q => List.mem_singleton.mp q ▸ hv
end
section
open PySem PySem.W PyProof.Rows PySem.Calls
theorem anew_Mk : True := by w_top off; trivial
local macro_rules | `(tactic| walk_at "compareOp NotEq") => `(tactic| ((refine' cmp_ne_nil ?a ?b ?u ?_); (case a => exact PySem.IsL.isList (News.get (by k_asm) (by k_mem))); (case b => exact PySem.IsL.isList (News.get (by k_asm) (by k_mem))); (case u => walk_at "m_units"); k_whole))
theorem sz_le {a b : List Value} {n : Nat} (h1 : a.length + b.length ≤ n) (h2 : n ≤ 1000) : a.toArray.toList.length + b.toArray.toList.length ≤ sizeLine := by
  rw [sizeLine_eq]
  simp only []
  omega
local macro_rules | `(tactic| walk_at "binaryOp Add ref ref") => `(tactic| ((refine' kmk_add_lit ?F ?N ?a ?b ?e ?_ ?z); (case F => k_asm); (case N => k_asm); (case a => exact PySem.IsL.isList (News.get (by k_asm) (by k_mem))); (case b => exact PySem.IsL.isList (News.get (by k_asm) (by k_mem))); (case e => exact rfl); (case z => exact sz_le (n := 1000) (by simp only [List.length_append, List.length_cons, List.length_nil] at *; omega) (by omega)); intro D' h' F' N' l1; (try k_lt l1); (try k_sweep)))
structure LoI (lt : Value → Value → Bool) (s : Shared) (g : Heap) (L' hp it : Addr) (vs res : List Value) (n' : Nat) (s' : Shared) : Prop where
  ex : ∃ (h : Heap) (tk : Nat) (off : Addr) (u : Str → Option Value) (hs out : List Value) (nn n2 : Nat), s' = { s with heap := h, toks := tk } ∧ hs.length = n' ∧ off ≠ hp ∧
    Fr g L' h (fun y => (List.lookup y [(Str.ofString "heap", Value.ref hp), (Str.ofString "off", Value.ref off), (Str.ofString "items", Value.ref it)]).or (u y)) ∧
    News g L' h [(hp, listOf hs.toArray nn), (off, listOf out.toArray n2)] ∧ out.length + hs.length = vs.length ∧ out ++ popN lt hs.length hs = res ∧ SubV hs vs
theorem lawoff_K {prog : Program} {w : World} {p : Program} {loose : List Str} {mean : ExcName → Option Value} {mg mb : Str → Option Value} {hb : Heap}
    (X : (hd.heap_39 w.params).In hb) (T : Top p loose mean mg mb hb)
    (lt : Value → Value → Bool) (A : Around) (s : Shared) (Q E : Value → Shared → Prop)
    (it : Addr) (vs : List Value) (H : LtAll prog w hb lt vs) (hh : A.handled = none)
    (hst : hb.StaysIn s.heap) (hit : hb.IsList it vs.toArray)
    (hdp : A.depth < 470) (hun : A.units + 200 < cLine) (hlen : vs.length < 90)
    (hret : ∀ h' tk' r n', s.heap.StaysIn h' → h'.get? r = some (listOf (popN lt vs.length (pushAll lt vs)).toArray n') → s.heap.get? r = none → Q (.ref r) { s with heap := h', toks := tk' }) :
    wpAny (model prog w) A (call (.ref 204) [.ref it]) Q E s := by
  obtain ⟨hd0, dp, fr, gd, un⟩ := A
  obtain rfl : hd0 = none := hh
  dsimp only at hdp hun
  refine wpAny_call ?_
  have dum : PySem.Challenge.rw_ik0041_01.Holds → (hd.heap_39 w.params).In hb → True := fun _ _ => trivial
  revert dum; k_fill; intro _
  refine' enter (binds := [(Str.ofString "items", .ref it)]) [] X T hst ?k1 ?k2 ?k3 ?k4 ?k6 ?k7 ?k5 ?k8 ?k9 ?k10 ?_
  case k1 => exact fun _ q => nomatch q
  ((k_dflt ((case k2 => k_is); (case k3 => k_is); (case k4 => ((try dsimp only); simp only [recursionLimit]; omega)); (case k6 => exact BindsTo.of_eq rfl); (case k7 => exact locs rfl); (case k5 => decide); (case k8 => exact rfl); (case k9 => exact rfl); (case k10 => exact rfl))))
  intro g L' h₁ hg hbg hgs hs1 F N X' T' hL
  dsimp only
  k_fold
  (repeat (first | (k_unfold; (try dsimp only)) | ((fail_if_success (with_reducible show wpAny _ _ (exec (Stmt.While _ _ _ _) _) _ _ _)); (fail_if_success (with_reducible show wpAny _ _ (exec (Stmt.For _ _ _ _ _) _) _ _ _)); (first | walk1 | (dsimp only; walk1)))))
  rename Fr g L' _ _ => F₂
  rename News g L' _ _ => N₂
  rename Heap => h₂
  obtain ⟨hp, off, u, hne, F₃, N₃⟩ : ∃ (hp off : Addr) (u : Str → Option Value), off ≠ hp ∧ Fr g L' h₂ (fun y => (List.lookup y [(Str.ofString "heap", Value.ref hp), (Str.ofString "off", Value.ref off), (Str.ofString "items", Value.ref it)]).or (u y)) ∧ News g L' h₂ [(hp, listOf ([] : List Value).toArray 0), (off, listOf ([] : List Value).toArray 0)] := by
    refine ⟨_, _, _, ?_, fr_lk F₂ ⟨rfl, rfl, rfl, trivial⟩, fun q hq => N₂ q ?_⟩
    · k_ne
    · simp only [List.mem_cons, List.not_mem_nil, or_false] at hq ⊢
      rcases hq with rfl | rfl <;> simp
  clear F₂ N₂
  refine my_for (L := L') (g := g) (J := fun i m₁ news₁ => ∃ nn, LkOk m₁ [(Str.ofString "heap", Value.ref hp), (Str.ofString "off", Value.ref off), (Str.ofString "items", Value.ref it)] ∧
      news₁ = [(hp, listOf (pushAll lt (vs.take i)).toArray nn), (off, listOf ([] : List Value).toArray 0)] ∧ SubV (pushAll lt (vs.take i)) vs ∧ (pushAll lt (vs.take i)).length = i) rfl rfl rfl rfl (hit.at fun o e => hbg it o e) F₃ N₃ ?_ ?_ ?_ ?_
  · exact ⟨0, ⟨rfl, rfl, rfl, trivial⟩, rfl, (fun _ q => nomatch q), rfl⟩
  · k_steps
  · rintro i v itA m₁ news₁ h tk o hv ⟨nn, hm, rfl, hS, hl⟩ hn ho F N
    have hvm : v ∈ vs := List.mem_of_getElem? hv
    have hi : i < vs.length := by
      rcases Nat.lt_or_ge i vs.length with q | q
      · exact q
      · rw [List.getElem?_eq_none q] at hv; cases hv
    have F5 := fr_lk (l := [(Str.ofString "item", v), (Str.ofString "heap", Value.ref hp), (Str.ofString "off", Value.ref off), (Str.ofString "items", Value.ref it)]) F ⟨if_pos rfl, hm.upd (by
      intro q hq; simp only [List.mem_cons, List.not_mem_nil, or_false] at hq; rcases hq with rfl | rfl | rfl <;> simp only <;> decide)⟩
    generalize (fun y => if y = Str.ofString "item" then some v else m₁ y) = u at F5
    clear F F₃ N₃
    have N5 : News g L' h ((hp, listOf (pushAll lt (vs.take i)).toArray nn) :: [(itA, o), (off, listOf ([] : List Value).toArray 0)]) := fun q hq => N q (by
      simp only [List.mem_cons, List.not_mem_nil, or_false] at hq ⊢; rcases hq with rfl | rfl | rfl <;> simp)
    have hr : ∀ q ∈ [(itA, o), (off, listOf ([] : List Value).toArray 0)], q.1 ≠ hp := by
      intro q hq
      simp only [List.mem_cons, List.not_mem_nil, or_false] at hq
      rcases hq with rfl | rfl
      · exact (hn _ (.head _)).symm
      · exact hne
    clear N
    k_steps
    have hS2 : SubV (pushAll lt (vs.take i) ++ [v]) vs := fun x hx => (List.mem_append.mp hx).elim (hS x) fun q => List.mem_singleton.mp q ▸ hvm
    refine heappush_K X T lt _ _ _ _ hp (pushAll lt (vs.take i)) v _ (fun a ha b hb => H a (hS2 a ha) b (hS2 b hb)) (stays_trans hbg F5.keep) (N5 _ (.head _)).1 (fresh_of_stays hbg (N5 _ (.head _)).2.2) ?_ ?_ ?_ fun h' tk' n' he ho' => ?_
    · show dp + 1 < 490; omega
    · show un + 3 + 120 < cLine; omega
    · omega
    · obtain ⟨F6, N6⟩ := after_hp F5 N5 he ho' hr
      clear F5 N5
      dsimp only
      k_steps
      have e : vs.take (i + 1) = vs.take i ++ [v] := by rw [List.take_add_one, hv]; rfl
      refine ⟨_, _, _, [(hp, listOf (pushAll lt (vs.take (i + 1))).toArray n'), (off, listOf ([] : List Value).toArray 0)], o, rfl, ⟨n', ⟨rfl, rfl, rfl, trivial⟩, rfl, ?_, ?_⟩, ho, F6, ?_, ?_⟩
      · rw [e, pushAll_snoc]; exact pushOne_sub _ _ _ _ hvm hS
      · rw [e, pushAll_snoc, pushOne_length, hl]
      · rw [e, pushAll_snoc]
        exact fun q hq => N6 q (by simp only [List.mem_cons, List.not_mem_nil, or_false] at hq ⊢; rcases hq with rfl | rfl | rfl <;> simp [pushOne])
      · intro q hq
        simp only [List.mem_cons, List.not_mem_nil, or_false] at hq
        rcases hq with rfl | rfl
        · exact (hr _ (.head _)).symm
        · exact hn (off, listOf ([] : List Value).toArray 0) (.tail _ (.head _))
  · rintro m₁ news₁ h tk ⟨nn, hm, rfl, hS, hl⟩ F N
    have F5 := fr_lk F hm
    rw [List.take_length] at N hS hl
    clear F F₃ N₃
    (repeat (first | (k_unfold; (try dsimp only)) | ((fail_if_success (with_reducible show wpAny _ _ (exec (Stmt.While _ _ _ _) _) _ _ _)); (fail_if_success (with_reducible show wpAny _ _ (exec (Stmt.For _ _ _ _ _) _) _ _ _)); (first | walk1 | (dsimp only; walk1)))))
    refine my_while (LoI lt s g L' hp it vs (popN lt vs.length (pushAll lt vs))) ?_ vs.length ⟨_, _, off, _, _, [], _, _, rfl, hl, hne, F5, N, ?_, ?_, hS⟩
    · rintro n' s' ⟨h3, tk3, off3, u3, hs, out, nn3, n3, rfl, h31, h32, F3, N3, h33, h34, h35⟩
      clear F5 N
      rcases snoc_cases hs with rfl | ⟨us, y, rfl⟩
      · k_steps
        rename Fr g L' _ _ => F4
        rename News g L' _ _ => N4
        dsimp only
        have z := N4 (off3, listOf out.toArray n3) (.tail _ (.tail _ (.head _)))
        refine hret _ _ off3 n3 (fun b o e => F4.keep b o (hg b o (fun q => nomatch q) e)) ?_ ?_
        · rw [← h34]
          simpa [popN] using z.1
        · cases q : s.heap.get? off3 with
          | none => rfl
          | some o => have z2 := z.2.2; rw [hg off3 o (fun q => nomatch q) q] at z2; cases z2
      · k_steps
        · exfalso
          rename List.isEmpty _ = true => hh
          simp at hh
        · rename Fr g L' _ _ => F4
          rename News g L' _ _ => N4
          have N5 := fun q hq => N4 q (List.Mem.tail _ hq)
          have hu : us.length < 90 := by simp at h33; omega
          refine heappop_K X T lt _ _ _ _ hp us y _ (fun a ha b hb => H a (h35 a ha) b (h35 b hb)) (stays_trans hbg F4.keep) (N5 _ (.head _)).1 (fresh_of_stays hbg (N5 _ (.head _)).2.2) ?_ ?_ ?_ fun h' tk' n' he ho' => ?_
          · show dp + 1 < 480; omega
          · show un + 3 + 140 < cLine; omega
          · omega
          · obtain ⟨F6, N6⟩ := after_hp F4 N5 he ho' (by intro q hq; rw [List.mem_singleton.mp hq]; exact h32)
            clear F4 N5 N4
            dsimp only
            k_steps
            rename Fr g L' _ _ => F8
            rename News g L' _ _ => N8
            dsimp only
            refine ⟨us.length, by simp at h31; omega, ⟨_, _, _, _, (popL lt us y).2, out ++ [(popL lt us y).1], n', 0, rfl, popL_length lt us y, ?_, fr_lk F8 ⟨rfl, rfl, rfl, trivial⟩, fun q hq => N8 q ?_, ?_, ?_, popL_sub lt us vs y h35⟩⟩
            · k_ne
            · simp only [List.mem_cons, List.not_mem_nil, or_false] at hq ⊢
              rcases hq with rfl | rfl <;> simp
            · rw [popL_length]; simp at h33 ⊢; omega
            · rw [← h34]
              simp only [List.length_append, List.length_cons, List.length_nil, popL_length]
              rw [popN_snoc]
              simp
    · simpa using hl
    · rw [hl]; rfl
end
end Mine
end
section
open PySem PySem.W PyProof.Rows PySem.Calls
open PySem.AutoSeq1 (wpAny_loadPart')
namespace Mine
theorem anew_Ms : True := by w_top off; trivial

theorem sub_str_str : isSubtype (.type "str") (.type "str") = pure true := by rw [isSubtype_type]; kernel_rfl
theorem sub_tup_tup : isSubtype (.type "tuple") (.type "tuple") = pure true := by rw [isSubtype_type]; kernel_rfl
theorem meta_str : (Value.type ((Manifest.find? "str").elim "type" fun e => e.metatype) == Value.type "type") = true := by decide +kernel

theorem nested_str {prog : Program} {w : World} {A : Around} {E : Value → Shared → Prop} {s : Shared} {k : Value} {dep : Int} {tk : Tok} {Q : PySem.Fin → Shared → Prop} (hk : k = .int dep tk) (hq : Q (.done (.ret (.bool true))) s) :
    wpAny (model prog w) A (Builtin.«issubclass.nested» ⟨[.type "str", .type "str", k], []⟩) Q E s := by
  subst hk
  have hm := meta_str
  have hself := sub_str_str
  repeat (any_goals (first | assumption | (rw [if_pos hm]) | (rw [hself]) | wp_step))

theorem kind_nested : builtinKind "issubclass.nested" = none := by decide +kernel
theorem plain_nested : plainId "issubclass.nested" = true := by decide +kernel
theorem args_nested (a b c : Value) : argsOk "issubclass.nested" ⟨[a, b, c], []⟩ := by unfold argsOk; kernel_rfl
theorem code_nested {prog : Program} {w : World} {A : Around} {s : Shared} {k : Value} {dep : Int} {tk : Tok} {R : Result → Shared → Prop} (hk : k = .int dep tk) (hq : R (.ok (.ret (.bool true))) s) :
    codeAny (model prog w) A (.call (.builtin "issubclass.nested") ⟨[.type "str", .type "str", k], []⟩) R s := by
  refine codeAny_call_builtin plain_nested F.entry_issubclass_nested ?_
  have hfin := nested_str (prog := prog) (w := w) (A := A.in1) (E := fun e s' => R (.error e) s') (s := s) (Q := fun fin s' => match fin with
    | .done f => R (.ok f) s'
    | .again c' => c'.quiet = true ∧ codeAny (model prog w) A c' R s') hk hq
  simp only [checkBuiltinCall, kind_nested]
  cases hsig : Manifest.signature? "issubclass.nested" with
  | none => exact wpAny_pure hfin
  | some sig =>
    have ha' : Bind.checkArgs "issubclass.nested" sig ⟨[.type "str", .type "str", k], []⟩ = pure () := by simpa only [argsOk, hsig] using args_nested (.type "str") (.type "str") k
    simp only [ha']
    exact wpAny_pure hfin
theorem issub_tup {tp : Addr} {n : Nat} : Meets (Builtin.«issubclass» ⟨[.type "str", .ref tp], []⟩)
    (fun A R s => s.heap.get? tp = some { cls := .type "tuple", data := .seq #[.type "str", .type "bytes"] n } ∧ R (.ok (.ret (.bool true))) s) := by
  intro prog w A R s h
  refine issubclass_outer ?_
  obtain ⟨hp, g, d, tk, os⟩ := s; obtain ⟨ht, h⟩ := h
  have f1 := sub_tup_tup
  unfold Builtin.«issubclass.nested»
  wp_walk using wpAny_loadPart' ht
  refine code_nested (k := rawInt (0 + 1)) rfl ?_
  dsimp only
  wp_walk
  exact h

theorem call_issub_tup {prog : Program} {w : World} {A : Around} {E : Value → Shared → Prop} {s : Shared} {Q : Value → Shared → Prop} {tp : Addr} {n : Nat} (ht : s.heap.get? tp = some { cls := .type "tuple", data := .seq #[.type "str", .type "bytes"] n })
    (h : Q (.bool true) s) : wpAny (model prog w) A (call (.builtin "issubclass") [.type "str", .ref tp]) Q E s :=
  call_issubclass issub_tup ⟨ht, h⟩
end Mine
end
section
open PySem PySem.W PyProof.Rows PySem.Calls
namespace Mine
theorem anew_Mq : True := by w_top off; trivial

local macro_rules | `(tactic| walk_at "call builtin:issubclass") => `(tactic| (refine call_issub_tup (News.get (by k_asm) (by k_mem)) ?_))
theorem stays_of {h g h' : Heap} {L : Addr} {m : Str → Option Value} (hg : ∀ b o, b ∉ ([] : List (Addr × Obj)).map (·.1) → h.get? b = some o → g.get? b = some o) (F : Fr g L h' m) : h.StaysIn h' :=
  fun b o e => F.keep b o (hg b o (fun q => nomatch q) e)
section
variable {prog : Program} {w : World} {p : Program} {loose : List Str} {mean : ExcName → Option Value} {mg mb : Str → Option Value} {hb : Heap}
theorem fspath_K (X : (hd.heap_39 w.params).In hb) (T : Top p loose mean mg mb hb)
    (A : Around) (s : Shared) (Q E : Value → Shared → Prop) (x : Str) (t : Tok) (hh : A.handled = none) (hst : hb.StaysIn s.heap) (hdp : A.depth < 470) (hun : A.units + 200 < cLine)
    (hret : ∀ h' tk', s.heap.StaysIn h' → Q (.str x t) { s with heap := h', toks := tk' }) :
    wpAny (model prog w) A (call (.ref 152) [.str x t]) Q E s := by
  obtain ⟨hd0, dp, fr, gd, un⟩ := A
  obtain rfl : hd0 = none := hh
  dsimp only at hdp hun
  refine wpAny_call ?_
  have dum : PySem.Challenge.rw_ik0041_01.Holds → (hd.heap_39 w.params).In hb → True := fun _ _ => trivial
  revert dum; k_fill; intro _
  refine' enter (binds := [(Str.ofString "path", .str x t)]) [] X T hst ?k1 ?k2 ?k3 ?k4 ?k6 ?k7 ?k5 ?k8 ?k9 ?k10 ?_
  case k1 => exact fun _ q => nomatch q
  ((k_dflt ((case k2 => k_is); (case k3 => k_is); (case k4 => ((try dsimp only); simp only [recursionLimit]; omega)); (case k6 => exact BindsTo.of_eq rfl); (case k7 => exact locs rfl); (case k5 => decide); (case k8 => exact rfl); (case k9 => exact rfl); (case k10 => exact rfl))))
  intro g L' h₁ hg hbg hgs hs1 F N X' T' hL
  dsimp only
  k_fold
  k_steps
  rename Fr g L' _ _ => F4
  exact hret _ _ (stays_of hg F4)
theorem getsep_K (X : (hd.heap_39 w.params).In hb) (T : Top p loose mean mg mb hb)
    (A : Around) (s : Shared) (Q E : Value → Shared → Prop) (x : Str) (t : Tok) (hh : A.handled = none) (hst : hb.StaysIn s.heap) (hdp : A.depth < 470) (hun : A.units + 200 < cLine)
    (hret : ∀ h' tk' t', s.heap.StaysIn h' → Q (.str (Str.ofString "/") t') { s with heap := h', toks := tk' }) :
    wpAny (model prog w) A (call (.ref 166) [.str x t]) Q E s := by
  obtain ⟨hd0, dp, fr, gd, un⟩ := A
  obtain rfl : hd0 = none := hh
  dsimp only at hdp hun
  refine wpAny_call ?_
  have dum : PySem.Challenge.rw_ik0041_01.Holds → (hd.heap_39 w.params).In hb → True := fun _ _ => trivial
  revert dum; k_fill; intro _
  refine' enter (binds := [(Str.ofString "path", .str x t)]) [] X T hst ?k1 ?k2 ?k3 ?k4 ?k6 ?k7 ?k5 ?k8 ?k9 ?k10 ?_
  case k1 => exact fun _ q => nomatch q
  ((k_dflt ((case k2 => k_is); (case k3 => k_is); (case k4 => ((try dsimp only); simp only [recursionLimit]; omega)); (case k6 => exact BindsTo.of_eq rfl); (case k7 => exact locs rfl); (case k5 => decide); (case k8 => exact rfl); (case k9 => exact rfl); (case k10 => exact rfl))))
  intro g L' h₁ hg hbg hgs hs1 F N X' T' hL
  dsimp only
  k_fold
  k_steps
  rename Fr g L' _ _ => F4
  exact hret _ _ _ (stays_of hg F4)
end
end Mine
end
section
open PySem PySem.W PyProof.Rows PySem.Calls
namespace Mine
theorem anew_Mv : True := by w_top off; trivial

/-- a bind that makes one object (a star's tuple), on the heap alone -/
theorem bind_one {α : Type} {K : Frag} {M : Model} {A : Around} {E : Value → Shared → Prop} {Q : α → Shared → Prop} {s : Shared} {o : Obj} {r : Addr → α} (X : K.In s.heap)
    (q : Q (r s.heap.objs.size) { s with heap := s.heap.push o }) :
    ∀ (t : Sem α) (g : Addr → Option α), peek1 K ⟨M.prog, M.w.params⟩ t = some (o, g) → (∀ D, g D = some (r D)) → wpAny M A t Q E s := by
  intro t
  induction t with
  | rule _ k ih => intro g e hg Γ p hΓ; exact ih () g e hg Γ p hΓ
  | point _ k ih => intro g e hg Γ p hΓ; exact ih () g e hg Γ p hΓ
  | ask k ih => intro g e hg Γ p hΓ; exact ih _ g e hg Γ p hΓ
  | load a _ k ih =>
    intro g e hg Γ p hΓ
    simp only [peek1] at e
    split at e
    · rename_i ob ho; exact ⟨ob, X _ _ ho, ih ob g e hg Γ p hΓ⟩
    · cases e
  | alloc ob k _ =>
    intro g e hg
    have e : some (ob, fun D => peek K ⟨M.prog, M.w.params⟩ (k D)) = some (o, g) := e
    obtain ⟨e1, e2⟩ := Prod.mk.inj (Option.some.inj e)
    subst e1
    subst e2
    have X' : K.In (s.heap.push ob) := X.keeps fun b x hb => Heap.get?_push_of_some _ hb
    show wpAny M A (alloc ob >>= k) Q E s
    refine wpAny_bind (wpAny_alloc ?_)
    exact (Looks.of_peek (M := M) (h := s.heap.push ob) X' (hg s.heap.objs.size)).here (s := { s with heap := s.heap.push ob }) q
  | _ => intro g e; cases e

section
variable {prog : Program} {w : World} {p : Program} {loose : List Str} {mean : ExcName → Option Value} {mg mb : Str → Option Value} {K : Frag} {hb : Heap}
theorem enterR {A : Around} {s : Shared} {R : Result → Shared → Prop} {name qual : Str} {params : Arguments} {body : List Stmt} {scope : Scope} {dV kV doc pm cdv ct oc : Value} {an od : Option Addr} {osl : Array (Option Value)} {f : Addr} {args : Args}
    {vs : List Value} {g₁ : Addr → Option (List (Str × Value))} {binds : Addr → List (Str × Value)}
    (X : K.In hb) (T : Top p loose mean mg mb hb) (hst : hb.StaysIn s.heap)
    (ho : K.lookup f = some ⟨oc, od, .func (fnOf name qual params body scope dV kV doc pm an cdv ct), osl⟩) (hcd : codeIn K cdv qual = true) (hroom : A.depth < recursionLimit)
    (hp : peek1 K ⟨prog, w.params⟩ (bindArgs (fnOf name qual params body scope dV kV doc pm an cdv ct) args) = some (({ cls := .type "tuple", data := .seq vs.toArray } : Obj), g₁))
    (hg : ∀ D, g₁ D = some (binds D)) (hloc : ∀ D, ∀ y ∈ binds D, scope.names.lookup y.1 = some .local)
    (hcell : ∀ x ∈ scope.names, x.2 ≠ .cell) (hco : scope.isCoroutine = false) (hgen : scope.isGenerator = false) (hk : scope.kind = .function)
    (h : ∀ D L' h₁, s.heap.get? D = none → s.heap.StaysIn h₁ → Fr s.heap L' h₁ (fun y => (binds D).reverse.lookup y) → News s.heap L' h₁ [(D, ({ cls := .type "tuple", data := .seq vs.toArray } : Obj))] → K.In s.heap → Top p loose mean mg mb s.heap →
      wpAny (model prog w) (A.deeper (envOf qual scope L' f cdv)) (execs body (envOf qual scope L' f cdv))
        (fun fl s' => R (.ok (.ret (match fl with | .ret v => v | _ => .none))) s') (fun _ _ => False)
        { s with heap := h₁, toks := s.toks + (binds D).length }) :
    codeAny (model prog w) A (.call (.ref f) args) R s := by
  have Xs : K.In s.heap := X.keeps hst
  have Ts : Top p loose mean mg mb s.heap := T.keeps hst
  refine codeAny_call_function (fd := fnOf name qual params body scope dV kV doc pm an cdv ct) (body := body) hroom (Xs _ _ ho) rfl hco hgen rfl (codeRec_of Xs hcd) ?_
  refine bind_one (o := ({ cls := .type "tuple", data := .seq vs.toArray } : Obj)) (r := binds) Xs ?_ _ g₁ hp hg
  have kp : s.heap.StaysIn (s.heap.push ({ cls := .type "tuple", data := .seq vs.toArray } : Obj)) := fun b o e => Heap.get?_push_of_some _ e
  have hD : s.heap.get? s.heap.objs.size = none := by
    cases q : s.heap.get? s.heap.objs.size with
    | none => rfl
    | some o => exact absurd (Heap.lt_size q) (Nat.lt_irrefl _)
  have hDp : (s.heap.push ({ cls := .type "tuple", data := .seq vs.toArray } : Obj)).get? s.heap.objs.size = some ({ cls := .type "tuple", data := .seq vs.toArray } : Obj) := Heap.get?_push_size _ rfl
  refine wpAny_newFunctionEnv hcell (hloc s.heap.objs.size) (fun h₁ hns hsb => ⟨(Ts.nolimit.keeps kp).fresh _ hsb, codeAny_func ?_⟩) hk
  have hk₁ : ∀ b o, (s.heap.push ({ cls := .type "tuple", data := .seq vs.toArray } : Obj)).get? b = some o → h₁.get? b = some o := fun b o e => hsb.extBut b o (Nat.ne_of_lt (Heap.lt_size e)) (Heap.get?_push_of_some _ e)
  have hle : s.heap.objs.size ≤ (s.heap.push ({ cls := .type "tuple", data := .seq vs.toArray } : Obj)).objs.size := Nat.le_of_lt (Heap.lt_size hDp)
  exact wpAny_mono (h s.heap.objs.size _ h₁ hD (stays_trans kp hk₁) ⟨hns, fun b o e => hk₁ b o (kp b o e), hle⟩
    (fun q hq => by rw [List.mem_singleton.mp hq]; exact ⟨hk₁ _ _ hDp, Nat.ne_of_lt (Heap.lt_size hDp), hD⟩) Xs Ts) (fun _ _ q => q) fun _ _ q => q.elim
end
end Mine
end
section
open PySem PySem.W PyProof.Rows PySem.Calls
namespace Mine
section
open PySem PySem.W PyProof.Rows PySem.Calls
theorem anew_Mt : True := by w_top off; trivial
end
local macro_rules | `(tactic| walk_at "call ref") => `(tactic| ((with_reducible show wpAny _ _ (call (Value.ref 152) _) _ _ _); refine' fspath_K (by assumption) (by assumption) _ _ _ _ _ _ ?a ?b ?c ?d ?_; (case a => exact rfl); (case b => exact Fr.keep (by k_asm)); (case c => walk_at "m_depth"); (case d => walk_at "m_units"); walk_at "m_leave"))
local macro_rules | `(tactic| walk_at "call ref") => `(tactic| ((with_reducible show wpAny _ _ (call (Value.ref 166) _) _ _ _); refine' getsep_K (by assumption) (by assumption) _ _ _ _ _ _ ?a ?b ?c ?d ?_; (case a => exact rfl); (case b => exact Fr.keep (by k_asm)); (case c => walk_at "m_depth"); (case d => walk_at "m_units"); intro h0' tk0' t0'; revert h0' tk0'; walk_at "m_leave"))
section
open PySem PySem.W PyProof.Rows PySem.Calls
/-- posixpath.split -/
def splitF (x : Str) : Str × Str :=
  if ((Txt.slice x none (some (Txt.rfind x (Str.ofString "/") + 1))).length : Int) ≠ 0 then
    if (Txt.slice x none (some (Txt.rfind x (Str.ofString "/") + 1)) != Txt.mul (Str.ofString "/") ((Txt.slice x none (some (Txt.rfind x (Str.ofString "/") + 1))).length : Int)) = true then
      (Txt.rstripChars (Txt.slice x none (some (Txt.rfind x (Str.ofString "/") + 1))) (Str.ofString "/"), Txt.slice x (some (Txt.rfind x (Str.ofString "/") + 1)) none)
    else (Txt.slice x none (some (Txt.rfind x (Str.ofString "/") + 1)), Txt.slice x (some (Txt.rfind x (Str.ofString "/") + 1)) none)
  else (Txt.slice x none (some (Txt.rfind x (Str.ofString "/") + 1)), Txt.slice x (some (Txt.rfind x (Str.ofString "/") + 1)) none)
section
variable {prog : Program} {w : World} {p : Program} {loose : List Str} {mean : ExcName → Option Value} {mg mb : Str → Option Value} {hb : Heap}
theorem split_K (X : (hd.heap_39 w.params).In hb) (T : Top p loose mean mg mb hb)
    (A : Around) (s : Shared) (Q E : Value → Shared → Prop) (x : Str) (t : Tok) (hh : A.handled = none) (hst : hb.StaysIn s.heap) (hdp : A.depth < 460) (hun : A.units + 220 < cLine) (hlen : x.length < 1000)
    (hret : ∀ h' tk' r t1 t2 n, s.heap.StaysIn h' → s.heap.get? r = none → h'.get? r = some { cls := .type "tuple", data := .seq #[.str (splitF x).1 t1, .str (splitF x).2 t2] n } → Q (.ref r) { s with heap := h', toks := tk' }) :
    wpAny (model prog w) A (call (.ref 180) [.str x t]) Q E s := by
  obtain ⟨hd0, dp, fr, gd, un⟩ := A
  obtain rfl : hd0 = none := hh
  dsimp only at hdp hun
  refine wpAny_call ?_
  have dum : PySem.Challenge.rw_ik0041_01.Holds → (hd.heap_39 w.params).In hb → True := fun _ _ => trivial
  revert dum; k_fill; intro _
  refine' enter (binds := [(Str.ofString "p", .str x t)]) [] X T hst ?k1 ?k2 ?k3 ?k4 ?k6 ?k7 ?k5 ?k8 ?k9 ?k10 ?_
  case k1 => exact fun _ q => nomatch q
  ((k_dflt ((case k2 => k_is); (case k3 => k_is); (case k4 => ((try dsimp only); simp only [recursionLimit]; omega)); (case k6 => exact BindsTo.of_eq rfl); (case k7 => exact locs rfl); (case k5 => decide); (case k8 => exact rfl); (case k9 => exact rfl); (case k10 => exact rfl))))
  intro g L' h₁ hg hbg hgs hs1 F N X' T' hL
  dsimp only
  k_fold
  k_steps
  all_goals rename Fr g L' _ _ => F4
  all_goals rename News g L' _ _ => N4
  all_goals (try dsimp only)
  · have e : splitF x = _ := (if_pos (by assumption)).trans (if_pos (by assumption))
    exact hret _ _ _ _ _ _ (stays_of hg F4) (fresh_hg hg (N4 _ (.head _)).2.2) (by rw [e]; exact (N4 _ (.head _)).1)
  · have e : splitF x = _ := (if_pos (by assumption)).trans (if_neg (fun q => by rename _ = false => hf; rw [hf] at q; cases q))
    exact hret _ _ _ _ _ _ (stays_of hg F4) (fresh_hg hg (N4 _ (.head _)).2.2) (by rw [e]; exact (N4 _ (.head _)).1)
  · have e : splitF x = _ := if_neg (fun q => q (by assumption))
    exact hret _ _ _ _ _ _ (stays_of hg F4) (fresh_hg hg (N4 _ (.head _)).2.2) (by rw [e]; exact (N4 _ (.head _)).1)
end
end
section
open PySem PySem.W PyProof.Rows PySem.Calls
theorem anew_Mw : True := by w_top off; trivial
section
variable {prog : Program} {w : World} {p : Program} {loose : List Str} {mean : ExcName → Option Value} {mg mb : Str → Option Value} {hb : Heap}
theorem join_K (X : (hd.heap_39 w.params).In hb) (T : Top p loose mean mg mb hb)
    (A : Around) (s : Shared) (Q E : Value → Shared → Prop) (x y : Str) (t u : Tok) (hh : A.handled = none) (hst : hb.StaysIn s.heap) (hdp : A.depth < 460) (hun : A.units + 220 < cLine) (hlen : x.length < 1000) (hlen2 : y.length < 1000)
    (c1 : Txt.startswith y (Str.ofString "/") = false) (c2 : x.length ≠ 0) (c3 : Txt.endswith x (Str.ofString "/") = false)
    (hret : ∀ h' tk' t', s.heap.StaysIn h' → Q (.str (x ++ (Str.ofString "/" ++ y)) t') { s with heap := h', toks := tk' }) :
    wpAny (model prog w) A (call (.ref 173) [.str x t, .str y u]) Q E s := by
  obtain ⟨hd0, dp, fr, gd, un⟩ := A
  obtain rfl : hd0 = none := hh
  dsimp only at hdp hun
  refine wpAny_call ?_
  have dum : PySem.Challenge.rw_ik0041_01.Holds → (hd.heap_39 w.params).In hb → True := fun _ _ => trivial
  revert dum; k_fill; intro _
  refine' enterR (vs := [.str y u]) X T hst ?k2 ?k3 ?k4 ?kP ?kG ?k7 ?k5 ?k8 ?k9 ?k10 ?_
  k_dflt (case k2 => k_is)
  k_dflt (case k3 => k_is)
  case k4 => (simp only [recursionLimit]; omega)
  case kP => exact rfl
  case kG => exact fun _ => rfl
  case k7 => exact fun _ => locs rfl
  case k5 => decide
  case k8 => exact rfl
  case k9 => exact rfl
  case k10 => exact rfl
  intro D L' h₁ hD hs1 F N X' T'
  dsimp only
  k_fold
  k_steps
  · rename Fr s.heap L' _ _ => F4
    exact hret _ _ _ F4.keep
  · exact absurd (by assumption : (x.length : Int) = 0) (by omega)
end
end
section
open PySem PySem.W PyProof.Rows PySem.Calls
theorem anew_Mx : True := by w_top off; trivial
/-- posixpath.split, done again and again from behind -/
inductive NamesOf : Str → List Str → Prop where
  | nil : NamesOf (Str.ofString "") []
  | snoc {p q nm : Str} {ns : List Str} : p ≠ Str.ofString "" → splitF p = (q, nm) → q.length ≤ p.length → NamesOf q ns → NamesOf p (ns ++ [nm])
theorem news_head {g h : Heap} {L : Addr} {x : Addr × Obj} {r : List (Addr × Obj)} (N : News g L h (x :: r)) : News g L h [x] := fun q hq => N q (by rw [List.mem_singleton.mp hq]; exact .head _)
theorem sz_le2 {a b : List Value} {n : Nat} (h1 : a.length + b.length ≤ n) (h2 : n ≤ 1000) : a.toArray.toList.length + b.toArray.toList.length ≤ sizeLine := by
  rw [sizeLine_eq]
  simp only []
  omega
local macro_rules | `(tactic| walk_at "binaryOp Add ref ref") => `(tactic| ((refine' kmk_add_lit ?F ?N ?a ?b ?e ?_ ?z); (case F => k_asm); (case N => k_asm); (case a => exact PySem.IsL.isList (News.get (by k_asm) (by k_mem))); (case b => exact PySem.IsL.isList (News.get (by k_asm) (by k_mem))); (case e => exact rfl); (case z => exact sz_le2 (n := 1000) (by simp only [List.length_append, List.length_cons, List.length_nil] at *; omega) (by omega)); intro D' h' F' N' l1; (try k_lt l1); (try k_sweep)))
local macro_rules | `(tactic| walk_at "call ref") => `(tactic| ((with_reducible show wpAny _ _ (call (Value.ref 180) _) _ _ _); refine' split_K (by assumption) (by assumption) _ _ _ _ _ _ ?a ?b ?c ?d ?e ?_; (case a => exact rfl); (case b => exact Fr.keep (by k_asm)); (case c => walk_at "m_depth"); (case d => walk_at "m_units"); (case e => assumption); intro h' tk' r' t1' t2' n' hs' hr' ho'; (with_reducible rename Fr _ _ _ _ => F9); (with_reducible rename News _ _ _ _ => N9); (have F' := F9.keeps hs'); (have N' := news_new F9 N9 hs' hr' ho'); clear F9 N9; (try dsimp only)))
structure NmI (s : Shared) (g : Heap) (L' : Addr) (tot : List Str) (n' : Nat) (s' : Shared) : Prop where
  ex : ∃ (h : Heap) (tk : Nat) (D : Addr) (q : Str) (t : Tok) (u : Str → Option Value) (ns rest : List Str) (vs : List Value) (nn : Nat), s' = { s with heap := h, toks := tk } ∧ ns.length = n' ∧ NamesOf q ns ∧ q.length < 1000 ∧ ns ++ rest = tot ∧ StrsAre vs rest ∧
    Fr g L' h (fun y => (List.lookup y [(Str.ofString "names", Value.ref D), (Str.ofString "path", Value.str q t)]).or (u y)) ∧ News g L' h [(D, listOf vs.toArray nn)]
section
variable {prog : Program} {w : World} {p : Program} {loose : List Str} {mean : ExcName → Option Value} {mg mb : Str → Option Value} {hb : Heap}
theorem names_K (X : (hd.heap_39 w.params).In hb) (T : Top p loose mean mg mb hb)
    (A : Around) (s : Shared) (Q E : Value → Shared → Prop) (x : Str) (t : Tok) (ns : List Str) (hns : NamesOf x ns) (hh : A.handled = none) (hst : hb.StaysIn s.heap) (hdp : A.depth < 450) (hun : A.units + 240 < cLine) (hlen : x.length < 1000) (hlen2 : ns.length < 100)
    (hret : ∀ h' tk' r vs n, s.heap.StaysIn h' → s.heap.get? r = none → h'.get? r = some (listOf vs.toArray n) → StrsAre vs ns → Q (.ref r) { s with heap := h', toks := tk' }) :
    wpAny (model prog w) A (call (.ref 197) [.str x t]) Q E s := by
  obtain ⟨hd0, dp, fr, gd, un⟩ := A
  obtain rfl : hd0 = none := hh
  dsimp only at hdp hun
  refine wpAny_call ?_
  have dum : PySem.Challenge.rw_ik0041_01.Holds → (hd.heap_39 w.params).In hb → True := fun _ _ => trivial
  revert dum; k_fill; intro _
  refine' enter (binds := [(Str.ofString "path", .str x t)]) [] X T hst ?k1 ?k2 ?k3 ?k4 ?k6 ?k7 ?k5 ?k8 ?k9 ?k10 ?_
  case k1 => exact fun _ q => nomatch q
  ((k_dflt ((case k2 => k_is); (case k3 => k_is); (case k4 => ((try dsimp only); simp only [recursionLimit]; omega)); (case k6 => exact BindsTo.of_eq rfl); (case k7 => exact locs rfl); (case k5 => decide); (case k8 => exact rfl); (case k9 => exact rfl); (case k10 => exact rfl))))
  intro g L' h₁ hg hbg hgs hs1 F N X' T' hL
  dsimp only
  k_fold
  (repeat (first | (k_unfold; (try dsimp only)) | ((fail_if_success (with_reducible show wpAny _ _ (exec (Stmt.While _ _ _ _) _) _ _ _)); (fail_if_success (with_reducible show wpAny _ _ (exec (Stmt.For _ _ _ _ _) _) _ _ _)); (first | walk1 | (dsimp only; walk1)))))
  rename Fr g L' _ _ => F₂
  rename News g L' _ _ => N₂
  refine my_while (NmI s g L' ns) ?_ ns.length ⟨_, _, _, x, t, _, ns, [], [], _, rfl, rfl, hns, hlen, by simp, .nil, fr_lk F₂ ⟨rfl, rfl, trivial⟩, N₂⟩
  rintro n' s' ⟨h3, tk3, D, q, tq, u3, ms, rest, vs, nn, rfl, h31, h32, h33, h34, h35, F3, N3⟩
  clear F₂ N₂
  cases h32 with
  | nil =>
    k_steps
    rename Fr g L' _ _ => F4
    rename News g L' _ _ => N4
    dsimp only
    have z := N4 (D, listOf vs.toArray nn) (by first | exact .head _ | exact .tail _ (.head _))
    have e : rest = ns := by simpa using h34
    exact hret _ _ D vs nn (stays_of hg F4) (fresh_hg hg z.2.2) z.1 (e ▸ h35)
  | snoc hq hsp hle hrec =>
    rename_i q2 nm ms2
    have hlv : vs.length < 200 := by
      rw [h35.len_eq]
      have e := congrArg List.length h34
      simp only [List.length_append, List.length_cons, List.length_nil] at e
      omega
    k_steps
    · rename Fr g L' _ _ => F4
      rename News g L' _ _ => N4
      dsimp only
      simp only [hsp] at F4 N4
      refine ⟨ms2.length, by simp at h31; omega, ⟨_, _, _, q2, _, _, ms2, nm :: rest, _, 0, rfl, rfl, hrec, by omega, by rw [← h34]; simp, .cons nm _ h35, fr_lk F4 ⟨rfl, rfl, trivial⟩, news_head N4⟩⟩
    · exfalso
      rename (q != Str.ofString "") = false => hf
      simp at hf
      exact hq hf
end
end
end Mine
end
section
open PySem PySem.W PyProof.Rows PySem.Calls
namespace Mine
theorem anew_Mg : True := by w_top off; trivial

/-- kept but for S -/
def KeptBut (S : Addr → Prop) (h h' : Heap) : Prop := ∀ b o, ¬ S b → h.get? b = some o → h'.get? b = some o

/-- every object of h but C, and but those of g -/
theorem all_news (g h : Heap) (C : Addr) (hg : g.StaysIn h) : ∃ nws : List (Addr × Obj), News g C h nws ∧ ∀ a o, h.get? a = some o → a = C ∨ g.get? a = some o ∨ (a, o) ∈ nws := by
  refine ⟨(List.range h.objs.size).filterMap fun a => if a = C ∨ (g.get? a).isSome = true then none else (h.get? a).map fun o => (a, o), fun q hq => ?_, fun a o e => ?_⟩
  · obtain ⟨a, _, ha⟩ := List.mem_filterMap.mp hq
    by_cases z : a = C ∨ (g.get? a).isSome = true
    · rw [if_pos z] at ha; cases ha
    · rw [if_neg z] at ha
      obtain ⟨o, ho, rfl⟩ := Option.map_eq_some_iff.mp ha
      refine ⟨ho, fun e => z (.inl e), ?_⟩
      cases q2 : g.get? a with
      | none => rfl
      | some o' => exact absurd (.inr (by rw [q2]; rfl)) z
  · by_cases z : a = C
    · exact .inl z
    · cases q : g.get? a with
      | some o' => exact .inr (.inl (by rw [hg a o' q] at e; exact e))
      | none =>
        refine .inr (.inr (List.mem_filterMap.mpr ⟨a, List.mem_range.mpr (Heap.lt_size e), ?_⟩))
        rw [if_neg (by rintro (y | y); exact z y; rw [q] at y; cases y), e]; rfl

def CPost (g : Heap) (C : Addr) (nws : List (Addr × Obj)) (s s' : Shared) : Prop := ∃ (h' : Heap) (tk : Nat) (m' : Str → Option Value), s' = { s with heap := h', toks := tk } ∧ Fr g C h' m' ∧ News g C h' nws
theorem CPost.mk' {g h' : Heap} {C : Addr} {nws all : List (Addr × Obj)} {s : Shared} {tk : Nat} {m' : Str → Option Value} (F : Fr g C h' m') (N : News g C h' all) (hs : ∀ q ∈ nws, q ∈ all) : CPost g C nws s { s with heap := h', toks := tk } :=
  ⟨h', tk, m', rfl, F, fun q hq => N q (hs q hq)⟩
theorem kept_of {g h h' : Heap} {C : Addr} {nws : List (Addr × Obj)} {S : Addr → Prop} {m' : Str → Option Value} (hc : ∀ a o, h.get? a = some o → a = C ∨ g.get? a = some o ∨ (a, o) ∈ nws) (hS : S C) (F : Fr g C h' m') (N : News g C h' nws) : KeptBut S h h' := fun b o hb e => by
  rcases hc b o e with q | q | q
  · exact absurd (q ▸ hS) hb
  · exact F.keep b o q
  · exact (N _ q).1

section
variable {prog : Program} {w : World}

/-- one turn of a comprehension: what holds of the values made so far, the heap in hand -/
def CTurn (prog : Program) (w : World) (A : Around) (env : Env) (scope : Scope) (cl : List (Str × Addr)) (x : Str) (ifs : List PySem.Expr) (elt : PySem.Expr) (g : Heap) (n : Nat) (P : Nat → Value → Prop) (J : (Addr → Prop) → Nat → List Value → Heap → Prop) : Prop :=
  ∀ (S : Addr → Prop) (i : Nat) (v : Value) (ys : List Value) (C : Addr) (m₃ : Str → Option Value) (nws : List (Addr × Obj)) (s₃ : Shared), i < n → (∀ a, S a → g.get? a = none) → S C → (∀ a, S a → ∃ o, s₃.heap.get? a = some o) → P i v → J S i ys s₃.heap →
    Fr g C s₃.heap m₃ → m₃ x = some v → News g C s₃.heap nws → (∀ a o, s₃.heap.get? a = some o → a = C ∨ g.get? a = some o ∨ (a, o) ∈ nws) →
    wpAny (model prog w) A (forIn ifs true fun c r => if r = true then do let ok ← isTrue c (compEnvC scope cl C env) (eval c (compEnvC scope cl C env)); pure (ForInStep.yield ok) else pure (ForInStep.yield r))
      (fun ok s₄ => CPost g C nws s₃ s₄ ∧ if ok = true then wpAny (model prog w) A (eval elt (compEnvC scope cl C env)) (fun y s₅ => CPost g C nws s₄ s₅ ∧ J S (i + 1) (ys ++ [y]) s₅.heap) (fun _ _ => False) s₄ else J S (i + 1) ys s₄.heap) (fun _ _ => False) s₃

structure CI (g : Heap) (s : Shared) (D C : Addr) (wr : List Addr) (n : Nat) (St : Nat → Heap → Prop) (J : (Addr → Prop) → Nat → List Value → Heap → Prop) (k : Nat) (s' : Shared) : Prop where
  ex : ∃ (h' : Heap) (tk : Nat) (m' : Str → Option Value) (ys : List Value) (i : Nat), s' = { s with heap := h', toks := tk } ∧ St i h' ∧ h'.PlainList D ys.toArray ∧ h'.Ns C m' ∧ J (fun a => a = C ∨ a = D ∨ a ∈ wr) i ys h' ∧ i ≤ n ∧ ys.length ≤ i ∧ k = n + 1 - i ∧
    g.StaysIn h'

theorem comp_loop {A : Around} {s : Shared} {g : Heap} {R : Result → Shared → Prop} {elt iter : PySem.Expr} {x : Str} {px : Pos} {ifs : List PySem.Expr} {scope : Scope} {cl : List (Str × Addr)} {pos : Pos} {I D C : Addr} {fp wr : List Addr} {n : Nat} {P : Nat → Value → Prop} {St : Nat → Heap → Prop} {env : Env} {m : Str → Option Value}
    (J : (Addr → Prop) → Nat → List Value → Heap → Prop) (mono : ∀ S i ys h h', J S i ys h → KeptBut S h h' → J S i ys h')
    (W : Walks prog w A I fp wr n P St) (hx : (compEnvC scope cl C env).kindOf x = some .local) (hk : scope.kind = .function) (hDC : D ≠ C) (hDf : D ∉ fp) (hCf : C ∉ fp) (hn : n ≤ sizeLine) (hab : g.objs.size ≤ C)
    (hwr : ∀ b ∈ wr, g.get? b = none) (hD0 : g.get? D = none)
    (hst : St 0 s.heap) (hacc : s.heap.PlainList D #[]) (hns : s.heap.Ns C m) (h0 : g.StaysIn s.heap) (hex : ∀ i h, St i h → ∀ b ∈ wr, ∃ o, h.get? b = some o)
    (hJ : J (fun a => a = C ∨ a = D ∨ a ∈ wr) 0 [] s.heap)
    (turn : CTurn prog w A env scope cl x ifs elt g n P J)
    (hR : ∀ h' tk m' ys, h'.Ns C m' → h'.PlainList D (List.toArray ys) → J (fun a => a = C ∨ a = D ∨ a ∈ wr) n ys h' → g.StaysIn h' → R (.ok .next) { s with heap := h', toks := tk }) :
    codeAny (model prog w) A (.compLoop (.ListComp elt [⟨.Name x px, iter, ifs, 0⟩] scope pos) 0 (.ref I) (.ref D) (compEnvC scope cl C env)) R s := by
  have hC0 : g.get? C = none := by
    cases e : g.get? C with
    | none => rfl
    | some o => exact absurd (Heap.lt_size e) (Nat.not_lt.mpr hab)
  have hnS : ∀ b o, g.get? b = some o → ¬ (b = C ∨ b = D ∨ b ∈ wr) := fun b o e q => by
    rcases q with q | q | q
    · rw [q, hC0] at e; cases e
    · rw [q, hD0] at e; cases e
    · rw [hwr b q] at e; cases e
  refine codeAny_compLoop_tests (CI g s D C wr n St J) ?_ (n + 1) ⟨s.heap, s.toks, m, [], 0, rfl, hst, hacc, hns, hJ, Nat.zero_le _, Nat.le_refl _, rfl, h0⟩
  rintro k s' ⟨H, tk, m', ys, i, rfl, hst', hacc', hn', hJ', hi, hyl, rfl, hkp⟩
  have hCw : C ∉ wr := fun h => hCf (W.sub _ h)
  have hDw : D ∉ wr := fun h => hDf (W.sub _ h)
  by_cases hlt : i < n
  · refine W.item i _ _ _ hlt hst' fun v h₁ tk₁ hPv hst₁ hk₁ => ?_
    refine PyProof.Rows.assign_Name ?_
    refine wpAny_storeName_local hx (hn'.at' fun o e => hk₁ _ o hCw e) (fun h₂ hn₂ hs₂ => ?_) (by show (scope.kind == .class || (scope.kind == .module && _)) = false; rw [hk]; rfl)
    have up₂ : ∀ b o, b ≠ C → b ∉ wr → H.get? b = some o → h₂.get? b = some o := fun b o hbC hbf e => hs₂.extBut b o hbC (hk₁ b o hbf e)
    have st₂ : g.StaysIn h₂ := fun b o e => by
      have q := hnS b o e
      exact up₂ b o (fun z => q (.inl z)) (fun z => q (.inr (.inr z))) (hkp b o e)
    have hst₂ : St (i + 1) h₂ := W.frame _ _ _ hst₁ fun b hb o e => hs₂.extBut b o (fun h => hCf ((show b = C from h) ▸ hb)) e
    have hJ₂ : J (fun a => a = C ∨ a = D ∨ a ∈ wr) i ys h₂ := mono _ _ _ _ _ hJ' fun b o q e => up₂ b o (fun z => q (.inl z)) (fun z => q (.inr (.inr z))) e
    have there : ∀ a, (a = C ∨ a = D ∨ a ∈ wr) → ∃ o, h₂.get? a = some o := fun a ha => by
      rcases ha with q | q | q
      · obtain ⟨o, _, _, e, _⟩ := hn₂
        exact ⟨o, q ▸ e⟩
      · obtain ⟨nn, e⟩ := hacc'
        exact ⟨_, up₂ a _ (fun z => hDC (q ▸ z)) (fun z => hDw (q ▸ z)) (q ▸ e)⟩
      · exact hex _ _ hst₂ a q
    have nS : ∀ a, (a = C ∨ a = D ∨ a ∈ wr) → g.get? a = none := fun a ha => by
      rcases ha with q | q | q
      · rw [q]; exact hC0
      · rw [q]; exact hD0
      · exact hwr a q
    obtain ⟨nws, hN, hall⟩ := all_news g h₂ C st₂
    have kp : ∀ {h' : Heap} {m' : Str → Option Value}, Fr g C h' m' → News g C h' nws → ∀ b o, b ≠ C → h₂.get? b = some o → h'.get? b = some o := fun F' N' b o hb e => by
      rcases hall b o e with q | q | q
      · exact absurd q hb
      · exact F'.keep b o q
      · exact (N' _ q).1
    refine wpAny_mono (turn _ i v ys C _ nws { s with heap := h₂, toks := tk₁ + 1 } hlt nS (.inl rfl) there hPv hJ₂ ⟨hn₂, st₂, hab⟩ (by simp) hN hall) (fun ok s₃ h₃ => ?_) fun _ _ q => q.elim
    obtain ⟨⟨h₃, tk₃, m₃, rfl, F₃, N₃⟩, h₃'⟩ := h₃
    have hk₃ := kp F₃ N₃
    have hst₃ : St (i + 1) h₃ := W.frame _ _ _ hst₂ fun b hb o e => hk₃ b o (fun z => hCf (z ▸ hb)) e
    have hacc₃ : h₃.PlainList D ys.toArray := hacc'.at fun o e => hk₃ _ o hDC (up₂ D o hDC hDw e)
    have hn₃ := F₃.ns
    cases ok with
    | false =>
      simp only [Bool.false_eq_true, if_false] at h₃' ⊢
      exact ⟨n + 1 - (i + 1), by omega, ⟨h₃, tk₃, _, ys, i + 1, rfl, hst₃, hacc₃, hn₃, h₃', hlt, by omega, rfl, F₃.keep⟩⟩
    | true =>
      simp only [if_true] at h₃' ⊢
      refine wpAny_mono h₃' (fun y s₄ h₄ => ?_) fun _ _ q => q.elim
      obtain ⟨⟨h₄, tk₄, m₄, rfl, F₄, N₄⟩, hJ₄⟩ := h₄
      have hk₄ := kp F₄ N₄
      have hacc₄ : h₄.PlainList D ys.toArray := hacc'.at fun o e => hk₄ _ o hDC (up₂ D o hDC hDw e)
      refine wpAny_list_append_plain (hsz := by rw [List.size_toArray]; omega) hacc₄ fun h₅ hl₅ hs₅ => ?_
      have e5 : ys.toArray.push y = (ys ++ [y]).toArray := by simp
      rw [e5] at hl₅
      refine ⟨n + 1 - (i + 1), by omega, ⟨h₅, tk₄, _, ys ++ [y], i + 1, rfl, ?_, hl₅, F₄.ns.sameBut hs₅ (Ne.symm hDC), ?_, hlt, by simp; omega, rfl, fun b o e => hs₅.extBut b o (fun z => by rw [show b = D from z, hD0] at e; cases e) (F₄.keep b o e)⟩⟩
      · exact W.frame _ _ h₅ hst₂ fun b hb o e => hs₅.extBut b o (fun h => hDf (h ▸ hb)) (hk₄ b o (fun z => hCf (z ▸ hb)) e)
      · exact mono _ _ _ _ _ hJ₄ fun b o q e => hs₅.extBut b o (fun z => q (.inr (.inl z))) e
  · have hin : i = n := by omega
    subst hin
    refine W.done _ _ _ hst' fun h₁ tk₁ hk₁ => ?_
    refine hR h₁ tk₁ m' ys (hn'.at' fun o e => hk₁ _ o hCw e) (hacc'.at fun o e => hk₁ _ o hDw e) (mono _ _ _ _ _ hJ' fun b o q e => hk₁ b o (fun z => q (.inr (.inr z))) e) fun b o e => ?_
    have q := hnS b o e
    exact hk₁ b o (fun z => q (.inr (.inr z))) (hkp b o e)

/-- what is to be shown once the source's iterator stands -/
structure CompGo (prog : Program) (w : World) (A : Around) (env : Env) (scope : Scope) (cl : List (Str × Addr)) (x : Str) (ifs : List PySem.Expr) (elt : PySem.Expr) (Q : Value → Shared → Prop) (it : Value) (s₂ : Shared) : Prop where
  ex : ∃ (I : Addr) (fp wr : List Addr) (n : Nat) (P : Nat → Value → Prop) (St : Nat → Heap → Prop) (J : (Addr → Prop) → Nat → List Value → Heap → Prop), it = .ref I ∧ Walks prog w A I fp wr n P St ∧ (∀ i h, St i h → ∀ b ∈ wr, ∃ o, h.get? b = some o) ∧ St 0 s₂.heap ∧
    (∀ b ∈ fp, b < s₂.heap.objs.size) ∧ n ≤ 1000 ∧ (∀ S i ys h h', J S i ys h → KeptBut S h h' → J S i ys h') ∧
    (∀ S h, (hideAll s₂.heap wr).StaysIn h → J S 0 [] h) ∧ CTurn prog w A env scope cl x ifs elt (hideAll s₂.heap wr) n P J ∧
    ∀ D ys h' tk k (S : Addr → Prop), (hideAll s₂.heap wr).StaysIn h' → (hideAll s₂.heap wr).get? D = none → h'.get? D = some (listOf (List.toArray ys) k) → S D → J S n ys h' → s₂.heap.objs.size ≤ D → Q (.ref D) { s₂ with heap := h', toks := tk }

/-- a comprehension of one clause -/
theorem comp1 {A : Around} {s : Shared} {Q E : Value → Shared → Prop} {elt iter : PySem.Expr} {x : Str} {px : Pos} {ifs : List PySem.Expr} {scope : Scope} {cl : List (Str × Addr)} {pos : Pos} {env : Env}
    (hclos : closureFor scope env = pure cl) (hcell : ∀ y ∈ scope.names, y.2 ≠ .cell) (hkind : scope.kind = .function)
    (hnames : ∀ y ∈ scope.names, y.2 = .local → scope.names.lookup y.1 = some .local) (hx : scope.names.lookup x = some .local)
    (h : wpAny (model prog w) A (eval iter env) (fun xv s₁ => wpAny (model prog w) A (pyIter xv) (fun it s₂ => CompGo prog w A env scope cl x ifs elt Q it s₂) (fun _ _ => False) s₁) (fun _ _ => False) s)
    (hs : ∀ x, foldedSetIterable iter env x = pure x := by intro _; rfl) :
    wpAny (model prog w) A (eval (.ListComp elt [⟨.Name x px, iter, ifs, 0⟩] scope pos) env) Q E s := by
  rw [eval_ListComp]
  refine wpAny_comprehension_free (g := ⟨.Name x px, iter, ifs, 0⟩) (gs := []) rfl hs hclos hkind hnames ?_
  refine wpAny_mono h (fun xv s₁ h₁ => wpAny_mono h₁ (fun it s₂ h₂ => ?_) fun _ _ q => q.elim) fun _ _ q => q.elim
  obtain ⟨I, fp, wr, n, P, St, J, rfl, W, hex, hst, hfp, hn, mono, h0, turn, done⟩ := h₂
  obtain ⟨H, gens, drawn, tk, os⟩ := s₂
  refine wpAny_newObj_type (wpAny_newFunctionEnv hcell (by intro y hy; simp at hy) (fun h₁ hns₁ hsb₁ => ?_) hkind)
  dsimp only at hns₁ hsb₁ hst hfp h0 turn done ⊢
  have sz : ∀ b o, H.get? b = some o → b < H.objs.size := fun b o e => Heap.lt_size e
  have e1 : (H.push { cls := .type "list", dict := none, data := .seq ([] : List Value).toArray }).objs.size = H.objs.size + 1 := Heap.size_push ..
  rw [e1] at hns₁ hsb₁ ⊢
  have old : ∀ b o, H.get? b = some o → h₁.get? b = some o := fun b o e => hsb₁.extBut b o (Nat.ne_of_lt (Nat.lt_succ_of_lt (sz b o e))) (Heap.get?_push_of_some _ (Heap.get?_push_of_some _ e))
  have hacc : h₁.PlainList H.objs.size #[] := ⟨_, hsb₁.extBut _ _ (Nat.ne_of_lt (Nat.lt_succ_self _)) (Heap.get?_push_of_some _ (Heap.get?_push_size _ rfl))⟩
  have fresh : ∀ a, H.objs.size ≤ a → (hideAll H wr).get? a = none := fun a ha => by
    cases e : (hideAll H wr).get? a with
    | none => rfl
    | some o' => exact absurd (sz a o' (of_hideAll _ e)) (Nat.not_lt.mpr ha)
  have hst₁ : St 0 h₁ := W.frame _ _ _ hst fun b _ o e => old b o e
  have st₁ : (hideAll H wr).StaysIn h₁ := fun b o e => old b o (of_hideAll _ e)
  have hDf : H.objs.size ∉ fp := fun q => Nat.lt_irrefl _ (hfp _ q)
  have hCf : H.objs.size + 1 ∉ fp := fun q => absurd (hfp _ q) (Nat.not_lt.mpr (Nat.le_succ _))
  have loop : ∀ s₃ : Shared, s₃ = ⟨h₁, gens, drawn, tk + ([] : List (Str × Value)).length, os⟩ →
      codeAny (model prog w) A (.compLoop (.ListComp elt [⟨.Name x px, iter, ifs, 0⟩] scope pos) 0 (.ref I) (.ref H.objs.size) (compEnvC scope cl (H.objs.size + 1) env))
        (compPost (model prog w) A E none Q (.ref H.objs.size) (H.objs.size + 1)) s₃ := by
    rintro s₃ rfl
    refine comp_loop (g := hideAll H wr) J mono W (lookup_relabel_local hx) hkind (Nat.ne_of_lt (Nat.lt_succ_self _)) hDf hCf (by rw [sizeLine_eq]; omega) (by rw [hideAll_size]; exact Nat.le_succ _) (fun b hb => hideAll_none _ hb) (fresh _ (Nat.le_refl _)) hst₁ hacc hns₁ st₁ hex
      (h0 _ _ st₁) turn fun h' tk' m' ys hns hpl hJ hst' => ?_
    refine ⟨m', hns, fun h'' hsb => ?_⟩
    obtain ⟨k, e⟩ := hpl
    refine done _ ys h'' tk' k _ (fun b o e => hsb.extBut b o (fun z => by rw [z, fresh _ (Nat.le_succ _)] at e; cases e) (hst' b o e)) (fresh _ (Nat.le_refl _)) (hsb.extBut _ _ (Nat.ne_of_lt (Nat.lt_succ_self _)) e) (.inr (.inl rfl))
      (mono _ _ _ _ _ hJ fun b o q e => hsb.extBut b o (fun z => q (.inl z)) e) (Nat.le_refl _)
  exact codeAny_compStart_list (loop _ rfl) (W.self 0 _ _ _ hst₁ (loop _ rfl))
end
end Mine
end
section
open PySem PySem.W PyProof.Rows PySem.Calls
namespace Mine
theorem anew_Mb : True := by w_top off; trivial
local macro_rules | `(tactic| walk_at "call type:type") => `(tactic| (refine call_type_of (by exact rfl) (by rfl) ?_))
theorem l_append2 {prog : Program} {w : World} {A : Around} {E : Value → Shared → Prop} {s : Shared} {h₀ : Heap} {L D : Addr} {m : Str → Option Value} {p0 : Addr × Obj} {rest : List (Addr × Obj)} {vs : List Value} {n : Nat} {v : Value} {Q : Value → Shared → Prop} (F : Fr h₀ L s.heap m) (N : News h₀ L s.heap (p0 :: (D, listOf vs.toArray n) :: rest)) (h0 : p0.1 ≠ D) (hr : ∀ q ∈ rest, q.1 ≠ D) (hsz : vs.length ≤ 1000)
    (h : ∀ h', Fr h₀ L h' m → News h₀ L h' (p0 :: (D, listOf (vs ++ [v]).toArray (n + 1)) :: rest) → Q .none { s with heap := h' }) :
    wpAny (model prog w) A (call (.builtin "list.append") [.ref D, v]) Q E s := by
  have e : vs.toArray.push v = (vs ++ [v]).toArray := by simp
  have U : Upd D (listOf vs.toArray n) (listOf (vs.toArray.push v) (n + 1)) (p0 :: (D, listOf vs.toArray n) :: rest) (p0 :: (D, listOf (vs.toArray.push v) (n + 1)) :: rest) := .tail h0 (.head hr)
  exact append_K (hsz := by rw [List.size_toArray, sizeLine_eq]; omega) F N U fun h' F' N' => h h' F' (e ▸ N')
local macro_rules | `(tactic| walk_at "call builtin:list.append") => `(tactic| ((refine' l_append2 ?F ?N ?h0 ?r ?l ?_); (case F => k_asm); (case N => k_asm); (case h0 => exact Ne.symm (by assumption)); (case r => exact fun _ q => nomatch q); (case l => ((try simp only [List.length_append, List.length_cons, List.length_nil]); omega)); k_whole; intro h' F' N'; (try k_sweep)))
theorem lk_eq {m : Str → Option Value} {l : List (Str × Value)} (hl : LkOk m l) : (fun y => (l.lookup y).or (m y)) = m := by
  funext y
  cases q : l.lookup y with
  | none => rfl
  | some v => exact (hl.get q).symm
theorem ints4 {vs : List Value} {ns : List Int} {a b c d k0 k1 k2 k3 : Int} {t0 t1 t2 t3 : Tok} (hv : IntsAre vs ns) (h0 : a = k0) (h1 : b = k1) (h2 : c = k2) (h3 : d = k3) :
    IntsAre ((((vs ++ [.int a t0]) ++ [.int b t1]) ++ [.int c t2]) ++ [.int d t3]) (ns ++ [k0, k1, k2, k3]) := by
  subst h0 h1 h2 h3
  have e : ((((vs ++ [Value.int a t0]) ++ [.int b t1]) ++ [.int c t2]) ++ [.int d t3]) = vs ++ [.int a t0, .int b t1, .int c t2, .int d t3] := by simp
  rw [e]
  exact IntsAre.append hv (.cons _ _ (.cons _ _ (.cons _ _ (.cons _ _ .nil))))
/-- three bytes and the four signs they are written as -/
def Grp (c : Int × Int × Int) (o : List Int) : Prop := (c, o) ∈ [((0, 0, 0), [65, 65, 65, 65]), ((251, 239, 190), [43, 43, 43, 43]), ((255, 255, 255), [47, 47, 47, 47])]
inductive Grps : List Int → List Int → Prop
  | nil : Grps [] []
  | cons {c0 c1 c2 : Int} {o r os : List Int} : Grp (c0, c1, c2) o → (c0 ≠ 0 → r = []) → Grps r os → Grps (c0 :: c1 :: c2 :: r) (o ++ os)
theorem int_is {k k' : Int} {t : Tok} (h : k = k') : ∃ t', Value.int k t = .int k' t' := ⟨t, h ▸ rfl⟩
theorem Grp.in {c : Int × Int × Int} {o : List Int} (h : Grp c o) : ∀ n ∈ o, 0 ≤ n ∧ n < 256 := by
  simp only [Grp, List.mem_cons, List.not_mem_nil, or_false, Prod.mk.injEq] at h
  rcases h with ⟨_, rfl⟩ | ⟨_, rfl⟩ | ⟨_, rfl⟩ <;> decide
theorem Grps.in {l o : List Int} (h : Grps l o) : ∀ n ∈ o, 0 ≤ n ∧ n < 256 := by
  induction h with
  | nil => intro n q; cases q
  | cons hg _ _ ih => intro n q; exact (List.mem_append.mp q).elim (hg.in n) (ih n)
theorem band_lo {prog : Program} {w : World} {A : Around} {E : Value → Shared → Prop} {s : Shared} {Q : Value → Shared → Prop} {a b : Int} {t u : Tok} (hb : b = 63 ∨ b = 65535)
    (h : ∀ n t', n = Builtin.bitAnd a b → 0 ≤ n → n ≤ b → Q (.int n t') { s with toks := s.toks + 1 }) :
    wpAny (model prog w) A (binaryOp .BitAnd (.int a t) (.int b u)) Q E s := by
  refine and_int ?_
  rcases hb with rfl | rfl
  · refine h _ _ rfl ?_ ?_ <;> rw [bitAnd_m6] <;> omega
  · refine h _ _ rfl ?_ ?_ <;> rw [bitAnd_m16] <;> omega
theorem b64_at {prog : Program} {w : World} {A : Around} {E : Value → Shared → Prop} {s : Shared} {Q : Value → Shared → Prop} {x : Str} {px pq : Pos} {e1 e2 : PySem.Expr} {op : Operator} {b : Array UInt8} {n : Int} {t u : Tok} (hn : 0 ≤ n) (hb : n ≤ 63) (hs : b.toList.length = 64)
    (h : ∀ v t', v = ((b.toList.getD n.toNat 0).toNat : Int) → Q (.int v t') { s with toks := s.toks + 1 }) :
    wpAny (model prog w) A (subscriptTail (.Name x px) (.BinOp e1 op e2 pq) (.bytes b t) (.int n u)) Q E s := by
  refine subscriptTail_builtin (typeIs_bytes _ _ _) FB.slot_bytes_getitem.lookup (getItem_bytes (by omega) (by omega) (by omega) ?_)
  exact h _ _ rfl
theorem Grp.four {c0 c1 c2 : Int} {o : List Int} (h : Grp (c0, c1, c2) o) : ∃ k, o = [k, k, k, k] ∧ (c0 = 0 ∧ c1 = 0 ∧ c2 = 0 ∧ k = 65 ∨ c0 = 251 ∧ c1 = 239 ∧ c2 = 190 ∧ k = 43 ∨ c0 = 255 ∧ c1 = 255 ∧ c2 = 255 ∧ k = 47) := by
  simp only [Grp, List.mem_cons, List.not_mem_nil, or_false, Prod.mk.injEq] at h
  rcases h with ⟨⟨rfl, rfl, rfl⟩, rfl⟩ | ⟨⟨rfl, rfl, rfl⟩, rfl⟩ | ⟨⟨rfl, rfl, rfl⟩, rfl⟩
  · exact ⟨65, rfl, .inl ⟨rfl, rfl, rfl, rfl⟩⟩
  · exact ⟨43, rfl, .inr (.inl ⟨rfl, rfl, rfl, rfl⟩)⟩
  · exact ⟨47, rfl, .inr (.inr ⟨rfl, rfl, rfl, rfl⟩)⟩
theorem grp_calc {c0 c1 c2 kc n6 n5 n4 n3 n2 n1 n0 v3 v2 v1 v0 : Int} (hkc : c0 = 0 ∧ c1 = 0 ∧ c2 = 0 ∧ kc = 65 ∨ c0 = 251 ∧ c1 = 239 ∧ c2 = 190 ∧ kc = 43 ∨ c0 = 255 ∧ c1 = 255 ∧ c2 = 255 ∧ kc = 47)
    (e6 : n6 = Builtin.bitAnd (Builtin.bitOr (0 * 2 ^ Int.toNat 8) c0) 65535) (e5 : n5 = Builtin.bitAnd (n6.fdiv (2 ^ (0 + 8 - 6 : Int).toNat)) 63)
    (e4 : n4 = Builtin.bitAnd (Builtin.bitOr (n6 * 2 ^ Int.toNat 8) c1) 65535) (e3 : n3 = Builtin.bitAnd (n4.fdiv (2 ^ (0 + 8 - 6 + 8 - 6 : Int).toNat)) 63)
    (e2 : n2 = Builtin.bitAnd (Builtin.bitOr (n4 * 2 ^ Int.toNat 8) c2) 65535) (e1 : n1 = Builtin.bitAnd (n2.fdiv (2 ^ (0 + 8 - 6 + 8 - 6 + 8 - 6 : Int).toNat)) 63)
    (e0 : n0 = Builtin.bitAnd (n2.fdiv (2 ^ (0 + 8 - 6 + 8 - 6 + 8 - 6 - 6 : Int).toNat)) 63)
    (f3 : v3 = (((#[65, 66, 67, 68, 69, 70, 71, 72, 73, 74, 75, 76, 77, 78, 79, 80, 81, 82, 83, 84, 85, 86, 87, 88, 89, 90, 97, 98, 99, 100, 101, 102, 103, 104, 105, 106, 107, 108, 109, 110, 111, 112, 113, 114, 115, 116, 117, 118, 119, 120, 121, 122, 48, 49, 50, 51, 52, 53, 54, 55, 56, 57, 43, 47] : Array UInt8).toList.getD n5.toNat 0).toNat : Int)) (f2 : v2 = (((#[65, 66, 67, 68, 69, 70, 71, 72, 73, 74, 75, 76, 77, 78, 79, 80, 81, 82, 83, 84, 85, 86, 87, 88, 89, 90, 97, 98, 99, 100, 101, 102, 103, 104, 105, 106, 107, 108, 109, 110, 111, 112, 113, 114, 115, 116, 117, 118, 119, 120, 121, 122, 48, 49, 50, 51, 52, 53, 54, 55, 56, 57, 43, 47] : Array UInt8).toList.getD n3.toNat 0).toNat : Int)) (f1 : v1 = (((#[65, 66, 67, 68, 69, 70, 71, 72, 73, 74, 75, 76, 77, 78, 79, 80, 81, 82, 83, 84, 85, 86, 87, 88, 89, 90, 97, 98, 99, 100, 101, 102, 103, 104, 105, 106, 107, 108, 109, 110, 111, 112, 113, 114, 115, 116, 117, 118, 119, 120, 121, 122, 48, 49, 50, 51, 52, 53, 54, 55, 56, 57, 43, 47] : Array UInt8).toList.getD n1.toNat 0).toNat : Int)) (f0 : v0 = (((#[65, 66, 67, 68, 69, 70, 71, 72, 73, 74, 75, 76, 77, 78, 79, 80, 81, 82, 83, 84, 85, 86, 87, 88, 89, 90, 97, 98, 99, 100, 101, 102, 103, 104, 105, 106, 107, 108, 109, 110, 111, 112, 113, 114, 115, 116, 117, 118, 119, 120, 121, 122, 48, 49, 50, 51, 52, 53, 54, 55, 56, 57, 43, 47] : Array UInt8).toList.getD n0.toNat 0).toNat : Int)) : v3 = kc ∧ v2 = kc ∧ v1 = kc ∧ v0 = kc ∧ (c0 = 0 → n2 = 0) := by
  subst f0 f1 f2 f3 e0 e1 e3 e5 e2 e4 e6
  rcases hkc with ⟨rfl, rfl, rfl, rfl⟩ | ⟨rfl, rfl, rfl, rfl⟩ | ⟨rfl, rfl, rfl, rfl⟩ <;> decide +kernel
theorem grps_ind {prog : Program} {w : World} {A : Around} {E : Value → Shared → Prop} {h₀ : Heap} {env : Env} {x : PySem.Str} {body : List Stmt} {Q : Flow → Shared → Prop} {s : Shared} {I : Addr} {tot : List Int}
    (J : List Int → List Int → (Str → Option Value) → List (Addr × Obj) → Prop)
    (step : ∀ vs m news r c0 c1 c2 o, Grp (c0, c1, c2) o → (c0 ≠ 0 → r = []) → vs.length + 4 ≤ tot.length → J (c0 :: c1 :: c2 :: r) vs m news → (∀ m' news', J r (vs ++ o) m' news' → BytesRest prog w A E h₀ env x body Q s I r m' news') → BytesRest prog w A E h₀ env x body Q s I (c0 :: c1 :: c2 :: r) m news)
    (fin : ∀ m news, J [] tot m news → BytesRest prog w A E h₀ env x body Q s I [] m news) :
    ∀ l os, Grps l os → ∀ vs m news, vs ++ os = tot → J l vs m news → BytesRest prog w A E h₀ env x body Q s I l m news := by
  intro l os h
  induction h with
  | nil => intro vs m news e j; rw [List.append_nil] at e; subst e; exact fin m news j
  | @cons c0 c1 c2 o r os hg hz hr ih =>
    intro vs m news e j
    refine step vs m news r c0 c1 c2 o hg hz ?_ j fun m' news' j' => ih (vs ++ o) m' news' (by rw [List.append_assoc]; exact e) j'
    have ho : o.length = 4 := by
      simp only [Grp, List.mem_cons, List.not_mem_nil, or_false, Prod.mk.injEq] at hg
      rcases hg with ⟨_, rfl⟩ | ⟨_, rfl⟩ | ⟨_, rfl⟩ <;> rfl
    rw [← e]; simp only [List.length_append, ho]; omega
section
variable {prog : Program} {w : World} {p : Program} {loose : List Str} {mean : ExcName → Option Value} {mg mb : Str → Option Value} {hb : Heap}
theorem buffer_K (X : (hd.heap_39 w.params).In hb) (T : Top p loose mean mg mb hb)
    (A : Around) (s : Shared) (Q E : Value → Shared → Prop) (b : Array UInt8) (t : Tok) (hh : A.handled = none) (hst : hb.StaysIn s.heap) (hdp : A.depth < 460) (hun : A.units + 220 < cLine)
    
    (hret : ∀ h' tk', s.heap.StaysIn h' → Q (.bytes b t) { s with heap := h', toks := tk' }) :
    wpAny (model prog w) A (call (.ref 56) [.bytes b t]) Q E s := by
  obtain ⟨hd0, dp, fr, gd, un⟩ := A
  obtain rfl : hd0 = none := hh
  dsimp only at hdp hun
  refine wpAny_call ?_
  have dum : PySem.Challenge.rw_ik0041_01.Holds → (hd.heap_39 w.params).In hb → True := fun _ _ => trivial
  revert dum; k_fill; intro _
  refine' enter (binds := [(Str.ofString "data", .bytes b t)]) [] X T hst ?k1 ?k2 ?k3 ?k4 ?k6 ?k7 ?k5 ?k8 ?k9 ?k10 ?_
  case k1 => exact fun _ q => nomatch q
  k_dflt (case k2 => k_is)
  k_dflt (case k3 => k_is)
  case k4 => simp only [recursionLimit]; omega
  case k6 => exact BindsTo.of_eq rfl
  case k7 => exact locs rfl
  case k5 => decide
  case k8 => exact rfl
  case k9 => exact rfl
  case k10 => exact rfl
  intro g L' h₁ hg hbg hgs hs1 F N X' T' hL
  dsimp only
  k_fold
  k_steps
  rename Fr g L' _ _ => F4
  exact hret _ _ (stays_of hg F4)
theorem truth_K (X : (hd.heap_39 w.params).In hb) (T : Top p loose mean mg mb hb)
    (A : Around) (s : Shared) (Q E : Value → Shared → Prop)  (hh : A.handled = none) (hst : hb.StaysIn s.heap) (hdp : A.depth < 460) (hun : A.units + 220 < cLine)
    
    (hret : ∀ h' tk', s.heap.StaysIn h' → Q (.bool false) { s with heap := h', toks := tk' }) :
    wpAny (model prog w) A (call (.ref 63) [.bool false]) Q E s := by
  obtain ⟨hd0, dp, fr, gd, un⟩ := A
  obtain rfl : hd0 = none := hh
  dsimp only at hdp hun
  refine wpAny_call ?_
  have dum : PySem.Challenge.rw_ik0041_01.Holds → (hd.heap_39 w.params).In hb → True := fun _ _ => trivial
  revert dum; k_fill; intro _
  refine' enter (binds := [(Str.ofString "x", .bool false)]) [] X T hst ?k1 ?k2 ?k3 ?k4 ?k6 ?k7 ?k5 ?k8 ?k9 ?k10 ?_
  case k1 => exact fun _ q => nomatch q
  k_dflt (case k2 => k_is)
  k_dflt (case k3 => k_is)
  case k4 => simp only [recursionLimit]; omega
  case k6 => exact BindsTo.of_eq rfl
  case k7 => exact locs rfl
  case k5 => decide
  case k8 => exact rfl
  case k9 => exact rfl
  case k10 => exact rfl
  intro g L' h₁ hg hbg hgs hs1 F N X' T' hL
  dsimp only
  k_fold
  k_steps
  rename Fr g L' _ _ => F4
  exact hret _ _ (stays_of hg F4)

local macro_rules | `(tactic| walk_at "call ref") => `(tactic| ((with_reducible show wpAny _ _ (call (Value.ref 56) _) _ _ _); refine' buffer_K (by assumption) (by assumption) _ _ _ _ _ _ ?a ?b ?c ?d ?_; (case a => exact rfl); (case b => exact Fr.keep (by k_asm)); (case c => walk_at "m_depth"); (case d => walk_at "m_units"); walk_at "m_leave"))
local macro_rules | `(tactic| walk_at "call ref") => `(tactic| ((with_reducible show wpAny _ _ (call (Value.ref 63) _) _ _ _); refine' truth_K (by assumption) (by assumption) _ _ _ _ ?a ?b ?c ?d ?_; (case a => exact rfl); (case b => exact Fr.keep (by k_asm)); (case c => walk_at "m_depth"); (case d => walk_at "m_units"); walk_at "m_leave"))
local macro_rules | `(tactic| walk_at "binaryOp BitAnd int int") => `(tactic| (k_dflt ((refine' band_lo ?bm ?_); (case bm => first | exact .inl rfl | exact .inr rfl); intro nB tB eB lB uB)))
local macro_rules | `(tactic| walk_at "subscriptTail") => `(tactic| ((with_reducible show wpAny _ _ (subscriptTail _ _ (Value.bytes _ _) (Value.int _ _)) _ _ _); k_dflt ((refine' b64_at ?ba ?bb ?bc ?_); (case ba => assumption); (case bb => assumption); (case bc => rfl); intro vB tB eB)))
theorem b2a_K (X : (hd.heap_39 w.params).In hb) (T : Top p loose mean mg mb hb)
    (A : Around) (s : Shared) (Q E : Value → Shared → Prop) (d : Array UInt8) (t : Tok) (outs : List Int) (hG : Grps (KBw.bInts d) outs) (hO : outs.length ≤ 900) (hh : A.handled = none) (hst : hb.StaysIn s.heap) (hdp : A.depth < 455) (hun : A.units + 300 < cLine)
    
    (hret : ∀ h' tk' t', s.heap.StaysIn h' → Q (.bytes (byteArr outs) t') { s with heap := h', toks := tk' }) :
    wpAny (model prog w) A (call (.ref 71) [.bytes d t] [(Str.ofString "newline", .bool false)]) Q E s := by
  obtain ⟨hd0, dp, fr, gd, un⟩ := A
  obtain rfl : hd0 = none := hh
  dsimp only at hdp hun
  refine wpAny_call ?_
  have dum : PySem.Challenge.rw_ik0041_01.Holds → (hd.heap_39 w.params).In hb → True := fun _ _ => trivial
  revert dum; k_fill; intro _
  refine' enter (binds := [(Str.ofString "data", .bytes d t), (Str.ofString "newline", .bool false)]) [] X T hst ?k1 ?k2 ?k3 ?k4 ?k6 ?k7 ?k5 ?k8 ?k9 ?k10 ?_
  case k1 => exact fun _ q => nomatch q
  k_dflt (case k2 => k_is)
  k_dflt (case k3 => k_is)
  case k4 => simp only [recursionLimit]; omega
  case k6 => exact kp_binds (X.keeps hst) (fun _ => rfl)
  case k7 => exact locs rfl
  case k5 => decide
  case k8 => exact rfl
  case k9 => exact rfl
  case k10 => exact rfl
  intro g L' h₁ hg hbg hgs hs1 F N X' T' hL
  dsimp only
  k_fold
  k_steps
  rename Fr g L' _ _ => F4
  rename News g L' _ _ => N4
  refine iter_bytesUnr (l := KBw.bInts d) rfl F4 N4 rfl ?_
  intro I hI
  refine grps_ind (tot := outs) (fun r ns m news => ∃ D nn vs v1 v2, D ≠ I ∧ IntsAre vs ns ∧ LkOk m [(Str.ofString "leftchar", v1), (Str.ofString "leftbits", v2), (Str.ofString "out", .ref D), (Str.ofString "newline", .bool false)] ∧ news = [(D, listOf vs.toArray nn)] ∧ (∃ lc t1, v1 = .int lc t1 ∧ (r ≠ [] → lc = 0)) ∧ ∃ t2, v2 = .int 0 t2) ?_ ?_ _ _ hG [] _ _ rfl ⟨_, 0, [], _, _, Nat.ne_of_lt (hI _ (.head _)), .nil, ⟨rfl, rfl, rfl, rfl, trivial⟩, rfl, ⟨0, _, rfl, fun _ => rfl⟩, ⟨_, rfl⟩⟩
  · clear hI F4 N4
    rintro ns m news r c0 c1 c2 o hg hz hlen ⟨D, nn, vs, v1, v2, hID, hv, hm, rfl, ⟨lc, t1, rfl, hlc⟩, ⟨t2, rfl⟩⟩ hk
    obtain rfl : lc = 0 := hlc (fun q => nomatch q)
    rw [← lk_eq hm]
    clear hm
    have hlv : vs.length + 4 ≤ 900 := by rw [hv.length]; omega
    obtain ⟨kc, rfl, hkc⟩ := hg.four
    clear hg
    k_steps
    obtain ⟨q3, q2, q1, q0, q6⟩ := grp_calc hkc (by assumption) (by assumption) (by assumption) (by assumption) (by assumption) (by assumption) (by assumption) (by assumption) (by assumption) (by assumption) (by assumption)
    exact hk _ _ ⟨D, _, _, _, _, hID, ints4 hv q3 q2 q1 q0, ⟨rfl, rfl, rfl, rfl, trivial⟩, rfl, ⟨_, _, rfl, fun q => q6 (Classical.byContradiction fun z => q (hz z))⟩, int_is (by decide +kernel)⟩
  · clear hI F4 N4
    rintro m news ⟨D, nn, vs, v1, v2, hID, hv, hm, rfl, ⟨lc, t1, rfl, hlc⟩, ⟨t2, rfl⟩⟩
    rw [← lk_eq hm]
    clear hm
    have hlv : vs.length ≤ 900 := by rw [hv.length]; omega
    k_steps
    refine KBa.make_K (by assumption) (by assumption) rfl (PySem.IsL.isList (News.get (by k_asm) (by k_mem))) hv hG.in (by omega) fun h' t' k F' N' hin => ?_
    k_steps
    rename Fr g L' _ _ => F4
    exact hret _ _ _ (stays_of hg F4)
end
end Mine
end
section
open PySem PySem.W PyProof.Rows PySem.Calls
open Builtin
namespace Mine
theorem anew_Me : True := by w_top off; trivial
theorem kkx {w : World} {hb : Heap} (h : PySem.Challenge.rw_ik0041_01.Holds → (hd.heap_39 w.params).In hb → True) : findCls (hd.heap_39 w.params) (.type "bytes") (.type "type") (Str.ofString "maketrans") = some (.val (.builtin "bytes.maketrans")) := by
  revert h; k_fill; intro _
  k_is
theorem kkt : typeOf (.builtin "bytes.maketrans") = pure (.type "builtin_function_or_method") := by show builtinType _ = _; rw [builtinType_eq_fast]; kernel_rfl
theorem slot_tr : Slot "bytes" "translate" "bytes.translate" :=
  .of (owner := "bytes") (n := "translate") (by rw [typeLookup_type, builtinLookup_eq_fast]; kernel_rfl) (by decide +kernel) (by decide +kernel) (by decide +kernel)
    (by first | exact .inl (by decide +kernel) | exact .inr (by decide +kernel)) (by rw [isSubtype_type]; kernel_rfl)
theorem type_tr : typeOf (.builtin "bytes.translate") = pure (.type "method_descriptor") := by show builtinType _ = _; rw [builtinType_eq_fast]; kernel_rfl
theorem entry_tr : entryFor table "bytes.translate" = some Builtin.«bytes.translate» := entryFor_of_tree (by kernel_rfl)
theorem args_tr (a b : Value) : argsOk "bytes.translate" ⟨[a, b], []⟩ := by
  unfold argsOk; rw [signature?_of (id := "bytes.translate") (n := ['e', 't', 'a', 'l', 's', 'n', 'a', 'r', 't']) (o := ['s', 'e', 't', 'y', 'b']) (by kernel_rfl) FB.owner_bytes]; kernel_rfl
theorem entry_mt : entryFor table "bytes.maketrans" = some Builtin.«bytes.maketrans» := entryFor_of_tree (by kernel_rfl)
theorem args_mt (a b : Value) : argsOk "bytes.maketrans" ⟨[a, b], []⟩ := by
  unfold argsOk; rw [signature?_of (id := "bytes.maketrans") (n := ['s', 'n', 'a', 'r', 't', 'e', 'k', 'a', 'm']) (o := ['s', 'e', 't', 'y', 'b']) (by kernel_rfl) FB.owner_bytes]; kernel_rfl
theorem args_dec (a b : Value) : argsOk "bytes.decode" ⟨[a, b], []⟩ := by
  unfold argsOk; rw [signature?_of (id := "bytes.decode") (n := ['e', 'd', 'o', 'c', 'e', 'd']) (o := ['s', 'e', 't', 'y', 'b']) (by kernel_rfl) FB.owner_bytes]; kernel_rfl

def mkTab (frm to : Array UInt8) : Array UInt8 := (frm.toList.zip to.toList).foldl (fun t (f, x) => t.setIfInBounds f.toNat x) ((Array.range 256).map (·.toUInt8))
theorem foldl_size (l : List (UInt8 × UInt8)) : ∀ (t : Array UInt8), (l.foldl (fun t (f, x) => t.setIfInBounds f.toNat x) t).size = t.size := by
  induction l with
  | nil => intro t; rfl
  | cons p r ih => intro t; rw [List.foldl_cons, ih]; simp
theorem mkTab_size (frm to : Array UInt8) : (mkTab frm to).size = 256 := by
  unfold mkTab; rw [foldl_size]; simp
def trans (tab b : Array UInt8) : Array UInt8 := b.map fun c => tab.getD c.toNat c

theorem meets_mt {a b : Array UInt8} {t u : Tok} (hs : a.size = b.size) :
    Meets («bytes.maketrans» ⟨[.bytes a t, .bytes b u], []⟩) (fun _ R s => R (.ok (.ret (.bytes (mkTab a b) s.toks))) { s with toks := s.toks + 1 }) := by
  refine .of_wp fun prog w A R s h => ?_
  show wpAny _ _ (Bytes.bytesLike _ (.bytes a t) >>= fun r => _) _ _ s
  refine wpAny_bind (wpAny_of_eq KBd.like_eq ?_)
  show wpAny _ _ (Bytes.bytesLike _ (.bytes b u) >>= fun r => _) _ _ s
  refine wpAny_bind (wpAny_of_eq KBd.like_eq ?_)
  rw [if_neg (by simp [hs])]
  show wpAny _ _ (mkBytes (mkTab a b) >>= fun v => ret v) _ _ s
  refine wpAny_bind ?_
  unfold mkBytes
  rw [if_neg (by rw [mkTab_size, sizeLine_eq]; decide)]
  refine wpAny_bind (wpAny_fresh (wpAny_pure (wpAny_pure ⟨_, rfl, h⟩)))
theorem meets_tr {a b : Array UInt8} {t u : Tok} (hs : b.size = 256) (ha : a.size ≤ sizeLine) :
    Meets («bytes.translate» ⟨[.bytes a t, .bytes b u], []⟩) (fun _ R s => ∀ t' k, R (.ok (.ret (.bytes (trans b a) t'))) { s with toks := k }) := by
  refine .of_wp fun prog w A R s h => ?_
  show wpAny _ _ (Bytes.bytesLike _ (.bytes b u) >>= fun r => _) _ _ s
  refine wpAny_bind (wpAny_of_eq KBd.like_eq ?_)
  rw [if_neg (by simp [hs])]
  have e : (a.filter (!(#[] : Array UInt8).contains ·)) = a := by simp
  show wpAny _ _ (if (((a.filter (!(#[] : Array UInt8).contains ·)).map fun c => b.getD c.toNat c) == a) = true then _ else _) _ _ s
  rw [e]
  show wpAny _ _ (if (trans b a == a) = true then _ else _) _ _ s
  by_cases q : (trans b a == a) = true
  · rw [if_pos q]
    have q' : trans b a = a := eq_of_beq q
    refine wpAny_bind (wpAny_rule ?_)
    refine wpAny_bind ?_
    show wpAny _ _ (typeOf (.bytes a t) >>= fun x => _) _ _ s
    refine wpAny_bind (wpAny_typeOf (typeIs_bytes s a t) ?_)
    refine wpAny_pure (wpAny_pure ⟨_, rfl, ?_⟩)
    rw [← q']; exact h _ _
  · rw [if_neg q]
    refine wpAny_bind ?_
    show wpAny _ _ (mkBytes (trans b a)) _ _ s
    unfold mkBytes
    rw [if_neg (by unfold trans; rw [Array.size_map]; omega)]
    exact wpAny_bind (wpAny_fresh (wpAny_pure (wpAny_pure ⟨_, rfl, h _ _⟩)))
/-- what decode('ascii') gives -/
structure Dec (b : Array UInt8) (x : Str) : Prop where
  ne : b.isEmpty = false
  run : ∀ id, ∃ n, _codecs.runDecoder id _codecs.asciiDecoder none true b 0 [] = pure (x.cps, n)
  sz : x.length ≤ sizeLine
theorem roadA_eq {id : String} {b : Array UInt8} : _codecs.decodeRoad id b (PySem.Str.ofString "ascii") none [] = (_codecs.runDecoder id _codecs.asciiDecoder none true b 0 [] >>= fun r => mkStr ⟨r.1⟩) := by kernel_rfl
theorem meets_textA {b : Array UInt8} {x : Str} {t t1 t2 : Tok} {d : PySem.Str} (hd : Dec b x) :
    Meets («_codecs.decode.text» ⟨[.bytes b t, .str (PySem.Str.ofString "ascii") t1, .none, .str d t2], []⟩) (fun _ R s => R (.ok (.ret (.str x s.toks))) { s with toks := s.toks + 1 }) := by
  refine .of_wp fun prog w A R s h => ?_
  obtain ⟨n, hn⟩ := hd.run "_codecs.decode.text"
  show wpAny _ _ (Bytes.bytesLike _ (.bytes b t) >>= fun r => _) _ _ s
  refine wpAny_bind (wpAny_of_eq KBd.like_eq ?_)
  refine wpAny_bind (wpAny_of_eq KBd.held_eq ?_)
  show wpAny _ _ (_codecs.decodeRoad _ b (PySem.Str.ofString "ascii") none [] >>= fun v => _) _ _ s
  rw [roadA_eq, (hd.run _).choose_spec]
  refine wpAny_bind (wpAny_bind (wpAny_pure ?_))
  exact wpAny_mkStr (wpAny_pure ⟨_, rfl, h⟩) hd.sz
theorem entryA_eq {c : UInt8} {cs : List UInt8} {t u : Tok} : «bytes.decode» ⟨[.bytes (c :: cs).toArray t, .str (PySem.Str.ofString "ascii") u], []⟩ = (mkStr (PySem.Str.ofString "utf-8") >>= fun _ => mkStr (PySem.Str.ofString "ascii") >>= fun e => mkStr (PySem.Str.ofString "bytes.decode") >>= fun d =>
    call (.builtin "_codecs.decode.text") [.bytes (c :: cs).toArray t, e, .none, d] >>= fun v => ret v) := by
  kernel_rfl
theorem meets_decodeA {b : Array UInt8} {x : Str} {t u : Tok} (hd : Dec b x) :
    Meets («bytes.decode» ⟨[.bytes b t, .str (PySem.Str.ofString "ascii") u], []⟩) (fun _ R s => ∀ t' k, R (.ok (.ret (.str x t'))) { s with toks := k }) := by
  refine .of_wp fun prog w A R s h => ?_
  obtain ⟨l⟩ := b
  cases l with
  | nil => exact absurd hd.ne (by decide)
  | cons c cs =>
    rw [entryA_eq]
    refine wpAny_bind (wpAny_mkStr ?_ (by decide))
    refine wpAny_bind (wpAny_mkStr ?_ (by decide))
    refine wpAny_bind (wpAny_mkStr ?_ (by decide))
    exact wpAny_bind (call_function_meets KBd.kind_text KBd.plain_text KBd.entry_text (KBd.args_text _ _ _ _) (meets_textA hd) (wpAny_pure ⟨_, rfl, h _ _⟩))
section
variable {prog : Program} {w : World} {A : Around} {E : Value → Shared → Prop} {s : Shared} {a b : Array UInt8} {t u : Tok} {x : PySem.Str} {Q : Value → Shared → Prop}
theorem decodeA (hd : Dec b x) (h : ∀ t' k, Q (.str x t') { s with toks := k }) : wpAny (model prog w) A (call (.builtin "bytes.decode") [.bytes b t, .str (PySem.Str.ofString "ascii") u]) Q E s :=
  call_meets FB.slot_bytes_decode (typeIs_bytes _ _ _) FB.entry_bytes_decode (args_dec _ _) (meets_decodeA hd) h
theorem maketrans_K (hs : a.size = b.size) (h : ∀ t' k, Q (.bytes (mkTab a b) t') { s with toks := k }) : wpAny (model prog w) A (call (.builtin "bytes.maketrans") [.bytes a t, .bytes b u]) Q E s := by
  refine wpAny_call (codeAny_call_builtin (by decide +kernel) entry_mt ?_)
  have hfin := meets_mt (t := t) (u := u) hs prog w A (wants Q E) s (h _ _)
  have ok := args_mt (.bytes a t) (.bytes b u)
  simp only [checkBuiltinCall, show builtinKind "bytes.maketrans" = some .staticMethod by decide +kernel, show splitId "bytes.maketrans" = some ("bytes", "maketrans") by decide +kernel]
  cases hsig : Manifest.signature? "bytes.maketrans" with
  | none => exact wpAny_pure hfin
  | some sig =>
    simp only [argsOk, hsig] at ok
    have h2 : Bind.checkArgs "bytes.maketrans" sig ⟨[.bytes a t, .bytes b u], []⟩ = pure () := ok
    show wpAny _ _ (Bind.checkArgs "bytes.maketrans" sig ⟨[.bytes a t, .bytes b u], []⟩) _ _ s
    rw [h2]; exact wpAny_pure hfin
theorem translate_K (hs : b.size = 256) (ha : a.size ≤ sizeLine) (h : ∀ t' k, Q (.bytes (trans b a) t') { s with toks := k }) : wpAny (model prog w) A (call (.builtin "bytes.translate") [.bytes a t, .bytes b u]) Q E s :=
  call_meets slot_tr (typeIs_bytes _ _ _) entry_tr (args_tr _ _) (meets_tr hs ha) h
theorem method_tr {M : Model} {pl : Sem Bool} {Q : Value × List Value → Shared → Prop} (h : Q (.builtin "bytes.translate", [.bytes b t]) s) : wpAny M A (getMethod (.bytes b t) (Str.ofString "translate") pl) Q E s := by
  with_reducible exact KBd.method_of (.bytes b t) (typeIs_bytes _ _ _) slot_tr type_tr KBd.noRef h
theorem method_dec {M : Model} {pl : Sem Bool} {Q : Value × List Value → Shared → Prop} (h : Q (.builtin "bytes.decode", [.bytes b t]) s) : wpAny M A (getMethod (.bytes b t) (Str.ofString "decode") pl) Q E s := by
  with_reducible exact KBd.method_of (.bytes b t) (typeIs_bytes _ _ _) FB.slot_bytes_decode FB.type_bytes_decode KBd.noRef h
end
section
variable {prog : Program} {w : World} {M : Model} {A : Around} {E : Value → Shared → Prop} {s : Shared} {K : Frag} {h₀ : Heap} {L : Addr} {m : PySem.Str → Option Value}
theorem getm_mt {pl : Sem Bool} {Q : Value × List Value → Shared → Prop} (F : Fr h₀ L s.heap m) (X₀ : K.In h₀)
    (e : findCls K (.type "bytes") (.type "type") (PySem.Str.ofString "maketrans") = some (.val (.builtin "bytes.maketrans")))
    (h : Q (.builtin "bytes.maketrans", []) { s with toks := s.toks + 1 }) :
    wpAny (model prog w) A (getMethod (.type "bytes") (PySem.Str.ofString "maketrans") pl) Q E s := by
  have X := X₀.keeps F.keep
  have hstub : opaqueClassAbove (.type "bytes") = pure none := by unfold opaqueClassAbove; dsimp only; rw [show Manifest.isStub "bytes" = false by decide +kernel]; rfl
  have ht : typeOf (.type "bytes") = pure (.type "type") := by first | rfl | kernel_rfl
  have L0 : Looks (model prog w) s.heap (typeOf (.type "bytes")) (.type "type") := Looks.of_pure ht
  have hg : findIn K (.type "type") "__getattribute__" = some (some (.builtin "type.__getattribute__")) := type_tga
  unfold getMethod specialOf
  refine wpAny_bind (wpAny_bind (L0.here ((looks_findIn X hg).here ?_)))
  dsimp only
  rw [if_pos canon_tga]
  refine wpAny_bind (wpAny_mono (Q := fun v => Q (v, [])) (E := E) ?_ (fun _ _ z => wpAny_pure z) fun _ _ z => z)
  have LO : Looks (model prog w) s.heap (opaqueClassAbove (.type "bytes")) none := Looks.of_pure hstub
  refine cls_open X LO L0 hg (looks_hook X (r := none) (by rfl)) (by show subIn K _ _ = _; rfl) e ?_
  exact wpAny_pure (handed_on (by first | rfl | decide +kernel) h)
end
end Mine
end
section
open PySem PySem.W PyProof.Rows PySem.Calls
namespace Mine
theorem anew_Md : True := by w_top off; trivial

local macro_rules | `(tactic| walk_at "call ref") => `(tactic| ((with_reducible show wpAny _ _ (call (Value.ref 71) _ _) _ _ _); refine' b2a_K (by assumption) (by assumption) _ _ _ _ _ _ _ ?g ?o ?a ?b ?c ?d ?_; (case g => assumption); (case o => assumption); (case a => exact rfl); (case b => exact Fr.keep (by k_asm)); (case c => walk_at "m_depth"); (case d => walk_at "m_units"); (intro h' tk' t' hs'; (with_reducible rename Fr _ _ _ _ => F9); (with_reducible rename News _ _ _ _ => N9); (have F' := F9.keeps hs'); (have N' := News.grown N9 hs'); clear F9 N9; (try dsimp only))))
local macro_rules | `(tactic| walk_at "getMethod bytes") => `(tactic| ((with_reducible show wpAny _ _ (getMethod (Value.bytes _ _) (Str.ofString "translate") _) _ _ _); refine method_tr ?_))
local macro_rules | `(tactic| walk_at "getMethod type:bytes") => `(tactic| (refine' getm_mt ?F ?X ?e ?_; (case F => k_asm); (case X => k_asm); (case e => k_dflt k_is)))
local macro_rules | `(tactic| walk_at "call builtin:bytes.maketrans") => `(tactic| ((refine maketrans_K (by assumption) ?_); intro t' tk'))
local macro_rules | `(tactic| walk_at "call builtin:bytes.translate") => `(tactic| ((refine translate_K (mkTab_size _ _) (by assumption) ?_); intro t' tk'))
section
variable {prog : Program} {w : World} {p : Program} {loose : List Str} {mean : ExcName → Option Value} {mg mb : Str → Option Value} {hb : Heap}
theorem b64_K (X : (hd.heap_39 w.params).In hb) (T : Top p loose mean mg mb hb)
    (A : Around) (s : Shared) (Q E : Value → Shared → Prop) (d alt : Array UInt8) (t u : Tok) (outs : List Int) (hG : Grps (KBw.bInts d) outs) (hO : outs.length ≤ 900) (ha : alt.size = 2) (hh : A.handled = none) (hst : hb.StaysIn s.heap) (hdp : A.depth < 450) (hun : A.units + 400 < cLine)
    
    (hret : ∀ h' tk' t', s.heap.StaysIn h' → Q (.bytes (trans (mkTab #[43, 47] alt) (byteArr outs)) t') { s with heap := h', toks := tk' }) :
    wpAny (model prog w) A (call (.ref 79) [.bytes d t, .bytes alt u]) Q E s := by
  obtain ⟨hd0, dp, fr, gd, un⟩ := A
  obtain rfl : hd0 = none := hh
  dsimp only at hdp hun
  refine wpAny_call ?_
  have dum : PySem.Challenge.rw_ik0041_01.Holds → (hd.heap_39 w.params).In hb → True := fun _ _ => trivial
  revert dum; k_fill; intro _
  refine' enter (binds := [(Str.ofString "s", .bytes d t), (Str.ofString "altchars", .bytes alt u)]) [] X T hst ?k1 ?k2 ?k3 ?k4 ?k6 ?k7 ?k5 ?k8 ?k9 ?k10 ?_
  case k1 => exact fun _ q => nomatch q
  k_dflt (case k2 => k_is)
  k_dflt (case k3 => k_is)
  case k4 => simp only [recursionLimit]; omega
  case k6 => exact kp_binds (X.keeps hst) (fun _ => rfl)
  case k7 => exact locs rfl
  case k5 => decide
  case k8 => exact rfl
  case k9 => exact rfl
  case k10 => exact rfl
  intro g L' h₁ hg hbg hgs hs1 F N X' T' hL
  dsimp only
  k_fold
  have hz : (byteArr outs).size ≤ sizeLine := by rw [sizeLine_eq]; simp [byteArr]; omega
  have hs2 : (#[43, 47] : Array UInt8).size = alt.size := ha.symm
  k_steps
  · rename Fr g L' _ _ => F4
    exact hret _ _ _ (stays_of hg F4)
  · exfalso
    omega
end
end Mine
end
section
open PySem PySem.W PyProof.Rows PySem.Calls
namespace Mine
theorem anew_My : True := by w_top off; trivial

theorem hide_push {h : Heap} {o : Obj} : h.StaysIn (hideAll (h.push o) [h.objs.size]) ∧ (hideAll (h.push o) [h.objs.size]).StaysIn h := by
  constructor
  · intro b x e
    refine hideAll_get _ (Heap.get?_push_of_some _ e) fun q => ?_
    rw [List.mem_singleton.mp q] at e
    exact absurd (Heap.lt_size e) (Nat.lt_irrefl _)
  · intro b x e
    have e2 := of_hideAll _ e
    have hb : b < h.objs.size := by
      have l := Heap.lt_size e2
      rw [Heap.size_push] at l
      rcases Nat.lt_or_ge b h.objs.size with q | q
      · exact q
      · have : b = h.objs.size := Nat.le_antisymm (Nat.le_of_lt_succ l) q
        rw [this, hideAll_none _ (by simp)] at e; cases e
    cases q : h.get? b with
    | some y => rw [Heap.get?_push_of_some _ q] at e2; exact e2
    | none =>
      exfalso
      unfold Heap.push Heap.get? at *
      simp only [Array.getElem?_push, Nat.ne_of_lt hb, if_false] at e2
      rw [q] at e2; cases e2

section
variable {prog : Program} {w : World} {A : Around} {s : Shared} {Q : Value → Shared → Prop} {elt : PySem.Expr} {x : Str} {ifs : List PySem.Expr} {scope : Scope} {cl : List (Str × Addr)} {env : Env}
theorem go_list {l : Addr} {vs : List Value} (J : (Addr → Prop) → Nat → List Value → Heap → Prop) (hh : A.handled = none) (hl : s.heap.IsList l vs.toArray) (hn : vs.length ≤ 1000)
    (mono : ∀ S i ys h h', J S i ys h → KeptBut S h h' → J S i ys h')
    (h0 : ∀ S h, s.heap.StaysIn h → J S 0 [] h)
    (turn : ∀ g, s.heap.StaysIn g → g.StaysIn s.heap → CTurn prog w A env scope cl x ifs elt g vs.length (fun i v => vs[i]? = some v) J)
    (done : ∀ D ys h' tk k (S : Addr → Prop), s.heap.StaysIn h' → s.heap.get? D = none → h'.get? D = some (listOf (List.toArray ys) k) → S D → J S vs.length ys h' → Q (.ref D) { s with heap := h', toks := tk }) :
    wpAny (model prog w) A (pyIter (.ref l)) (fun it s₂ => CompGo prog w A env scope cl x ifs elt Q it s₂) (fun _ _ => False) s := by
  refine wpAny_pyIter_list hl ?_
  obtain ⟨a, b⟩ := hide_push (h := s.heap) (o := { cls := .type "list_iterator", data := .fields #[.ref l, .int 0 0] })
  have hlt : l < s.heap.objs.size := by obtain ⟨o, e, _⟩ := hl; exact Heap.lt_size e
  have hnum : vs.toArray.size = vs.length := by simp
  refine ⟨s.heap.objs.size, [s.heap.objs.size, l], [s.heap.objs.size], vs.length, fun i v => vs[i]? = some v, fun i h => h.IsListIter s.heap.objs.size l i ∧ h.IsList l vs.toArray, J, rfl, ?W, ?_, ?_, ?_, hn, mono, fun S h e => h0 S h (stays_trans a e), turn _ a b, fun D ys h' tk k S c d e f g _ => done D ys h' tk k S (stays_trans a c) ?_ e f g⟩
  case W =>
    have W := Walks.list (prog := prog) (w := w) hh s.heap.objs.size l (Nat.ne_of_lt hlt) vs.toArray
    rw [hnum] at W
    simpa using W
  · intro i h st b hb
    rw [List.mem_singleton.mp hb]
    obtain ⟨o, e, _⟩ := st.1
    exact ⟨o, e⟩
  · refine ⟨⟨_, Heap.get?_push_size _ rfl, rfl, rfl⟩, hl.at fun o e => Heap.get?_push_of_some _ e⟩
  · intro b hb
    simp only [List.mem_cons, List.not_mem_nil, or_false] at hb
    show b < (Heap.push _ _).objs.size
    rw [Heap.size_push]
    rcases hb with q | q
    · rw [q]; exact Nat.lt_succ_self _
    · rw [q]; exact Nat.lt_succ_of_lt hlt
  · cases q : s.heap.get? D with
    | none => rfl
    | some o => rw [a D o q] at d; cases d
theorem go_range {r : Addr} {a b : Int} {t u v : Tok} {n : Nat} (J : (Addr → Prop) → Nat → List Value → Heap → Prop) (hh : A.handled = none) (hr : IsRange s.heap r a b 1 t u v) (hsmall : Builtin.Range.small a b 1 = true) (hsz : Builtin.Range.rangeSize a b 1 = (n : Int)) (hn : n ≤ 1000)
    (mono : ∀ S i ys h h', J S i ys h → KeptBut S h h' → J S i ys h')
    (h0 : ∀ S h, s.heap.StaysIn h → J S 0 [] h)
    (turn : ∀ g, s.heap.StaysIn g → g.StaysIn s.heap → CTurn prog w A env scope cl x ifs elt g n (fun i v => ∃ t, v = .int (a + i * 1) t) J)
    (done : ∀ D ys h' tk k (S : Addr → Prop), s.heap.StaysIn h' → s.heap.get? D = none → h'.get? D = some (listOf (List.toArray ys) k) → S D → J S n ys h' → Q (.ref D) { s with heap := h', toks := tk }) :
    wpAny (model prog w) A (pyIter (.ref r)) (fun it s₂ => CompGo prog w A env scope cl x ifs elt Q it s₂) (fun _ _ => False) s := by
  refine wpAny_pyIter_range hr hsmall ?_
  rw [hsz]
  obtain ⟨c, d⟩ := hide_push (h := s.heap) (o := { cls := .type "range_iterator", data := .fields #[rawInt a, rawInt (n : Int), rawInt 1] })
  refine ⟨s.heap.objs.size, [s.heap.objs.size], [s.heap.objs.size], n, fun i v => ∃ t, v = .int (a + i * 1) t, fun i h => IsRangeIter h s.heap.objs.size (a + (i : Nat) * 1) ((n : Int) - (i : Nat)) 1, J, rfl, Walks.range hh s.heap.objs.size a 1 n, ?_, ?_, ?_, hn, mono, fun S h e => h0 S h (stays_trans c e), turn _ c d, fun D ys h' tk k S e f g i j _ => done D ys h' tk k S (stays_trans c e) ?_ g i j⟩
  · intro i h st b hb
    rw [List.mem_singleton.mp hb]
    exact ⟨_, st⟩
  · have e1 : a + ((0 : Nat) : Int) * 1 = a := by simp
    have e2 : (n : Int) - ((0 : Nat) : Int) = n := by simp
    show IsRangeIter _ _ (a + ((0 : Nat) : Int) * 1) ((n : Int) - ((0 : Nat) : Int)) 1
    rw [e1, e2]
    exact Heap.get?_push_size _ rfl
  · intro b hb
    rw [List.mem_singleton.mp hb, Heap.size_push]; exact Nat.lt_succ_self _
  · cases q : s.heap.get? D with
    | none => rfl
    | some o => rw [c D o q] at f; cases f
end

section
variable {M : Model} {A : Around} {E : Value → Shared → Prop} {s : Shared} {g : Heap} {C : Addr} {m : Str → Option Value} {x : Str} {pos : Pos} {v : Value} {Q : Value → Shared → Prop} {scope : Scope} {cl : List (Str × Addr)} {env : Env}
theorem c_local (F : Fr g C s.heap m) (hv : m x = some v) (h : Q v s) (hk : (compEnvC scope cl C env).scope.kind = .function) (hx : (compEnvC scope cl C env).kindOf x = some .local) (hd : (x == ("__debug__" : Str)) = false) :
    wpAny M A (eval (.Name x pos) (compEnvC scope cl C env)) Q E s := wpAny_Name (wpAny_loadName_local hk hx F.ns hv h) hd
/-- a cell of the base -/
def CellIs (g : Heap) (c : Addr) (v : Value) : Prop := ∃ o, g.get? c = some o ∧ o.data = .cell (some v)
theorem c_cell {c : Addr} (F : Fr g C s.heap m) (hc : cl.lookup x = some c) (hv : CellIs g c v) (h : Q v s) (hk : (compEnvC scope cl C env).scope.kind = .function) (hx : (compEnvC scope cl C env).kindOf x = some .cell) (hd : (x == ("__debug__" : Str)) = false) :
    wpAny M A (eval (.Name x pos) (compEnvC scope cl C env)) Q E s := by
  obtain ⟨o, ho, hd'⟩ := hv
  exact wpAny_Name (wpAny_loadName_cell hk hx hc ⟨o, F.keep _ _ ho, hd'⟩ h) hd
theorem c_free {c : Addr} (F : Fr g C s.heap m) (hc : cl.lookup x = some c) (hv : CellIs g c v) (h : Q v s) (hk : (compEnvC scope cl C env).scope.kind = .function) (hx : (compEnvC scope cl C env).kindOf x = some .free) (hd : (x == ("__debug__" : Str)) = false) (hn : (x == ("__classdict__" : Str)) = false) :
    wpAny M A (eval (.Name x pos) (compEnvC scope cl C env)) Q E s := by
  obtain ⟨o, ho, hd'⟩ := hv
  exact wpAny_Name (wpAny_loadName_free hk hx hc ⟨o, F.keep _ _ ho, hd'⟩ h hn) hd
theorem c_glob {K : Frag} {mg mb : Str → Option Value} {p : Program} {loose : List Str} {mean : ExcName → Option Value} (F : Fr g C s.heap m) (X : K.In g) (T : Top p loose mean mg mb g)
    (e : nsIn K mainGlobals x = some (some v)) (h : Q v s) (hg : (compEnvC scope cl C env).globals = mainGlobals) (hk : (compEnvC scope cl C env).scope.kind = .function) (hx : (compEnvC scope cl C env).kindOf x = some .globalImplicit) (hd : (x == ("__debug__" : Str)) = false) :
    wpAny M A (eval (.Name x pos) (compEnvC scope cl C env)) Q E s :=
  nameG_K F X (topRead_of T) e h hg hk hx hd
theorem c_boot {K : Frag} {mg mb : Str → Option Value} {p : Program} {loose : List Str} {mean : ExcName → Option Value} (F : Fr g C s.heap m) (X : K.In g) (T : Top p loose mean mg mb g)
    (e : nsIn K mainGlobals x = some none) (hv : bootBuiltins x = some v) (hn : x ≠ "__name__") (h : Q v s) (hg : (compEnvC scope cl C env).globals = mainGlobals) (hb : (compEnvC scope cl C env).builtins = builtinsNs) (hk : (compEnvC scope cl C env).scope.kind = .function) (hx : (compEnvC scope cl C env).kindOf x = some .globalImplicit) (hd : (x == ("__debug__" : Str)) = false) :
    wpAny M A (eval (.Name x pos) (compEnvC scope cl C env)) Q E s :=
  Name_function_global hk hx (loadGlobal_builtin (env := compEnvC scope cl C env) (by rw [hg]; exact T.g.keeps F.keep) (mg_none_of X T.g e) (by rw [hb]; exact T.b.keeps F.keep) ((T.builtins x hn).trans hv) h) hd
end

section
variable {prog : Program} {w : World} {p : Program} {loose : List Str} {mean : ExcName → Option Value} {mg mb : Str → Option Value} {K : Frag} {hb : Heap}
/-- entering a def with cells -/
theorem enterC {A : Around} {s : Shared} {R : Result → Shared → Prop} {name qual : Str} {params : Arguments} {body : List Stmt} {scope : Scope} {dV kV doc pm cdv ct oc : Value} {an od : Option Addr} {osl : Array (Option Value)} {f : Addr} {args : Args} {binds : List (Str × Value)}
    (X : K.In hb) (T : Top p loose mean mg mb hb) (hst : hb.StaysIn s.heap)
    (ho : K.lookup f = some ⟨oc, od, .func (fnOf name qual params body scope dV kV doc pm an cdv ct), osl⟩) (hcd : codeIn K cdv qual = true) (hroom : A.depth < recursionLimit)
    (hbind : BindsTo s (fnOf name qual params body scope dV kV doc pm an cdv ct) args binds)
    (hkind : ∀ n, ∀ x ∈ binds, scope.names.lookup x.1 = some .local ∨ (scope.names.lookup x.1 = some .cell ∧ ((cellsFrom n scope.names []).lookup x.1).isSome = true))
    (hnd : ((cellsFrom 0 scope.names []).map (·.1)).Nodup)
    (hco : scope.isCoroutine = false) (hgen : scope.isGenerator = false) (hk : scope.kind = .function)
    (h : ∀ L' h₁ tk cells, Fr s.heap L' h₁ (bindL (envOfC qual scope L' f cdv).kindOf binds fun _ => none) → News s.heap L' h₁ cells →
      CellsAre (bindC (envOfC qual scope L' f cdv).kindOf binds fun _ => none) (cellsFrom (L' + 1) scope.names []) cells → K.In s.heap → Top p loose mean mg mb s.heap → 
      wpAny (model prog w) (A.deeper (envOfC qual scope L' f cdv)) (execs body (envOfC qual scope L' f cdv))
        (fun fl s' => R (.ok (.ret (match fl with | .ret v => v | _ => .none))) s') (fun _ _ => False)
        { s with heap := h₁, toks := tk }) :
    codeAny (model prog w) A (.call (.ref f) args) R s := by
  have Xs : K.In s.heap := X.keeps hst
  have Ts : Top p loose mean mg mb s.heap := T.keeps hst
  refine codeAny_call_function (fd := fnX name qual params body scope [] dV kV doc pm an cdv ct) (body := body) hroom (Xs _ _ ho) rfl hco hgen rfl (codeRec_of Xs hcd) (hbind _ _ _ _ ?_)
  refine wpAny_newFunctionEnv_cells hk (hkind _) fun env' he s' x => ?_
  subst he
  refine ⟨(T.nolimit.keeps hst).keeps x.toInCall.keep, codeAny_func ?_⟩
  obtain ⟨h₁, tk, rfl, _⟩ := x.done
  have hk₁ := x.toInCall.keep
  obtain ⟨cells, NC, Y⟩ := Cl.news (h₀ := s.heap) (Nat.le_refl _) fun n c hm => ⟨x.cell n c (lookup_of_mem_nodup (cellsFrom_names scope.names 0 (s.heap.objs.size + 1) [] [] rfl ▸ hnd) hm), x.above n c hm⟩
  exact wpAny_mono (h s.heap.objs.size h₁ tk cells ⟨x.toInCall.ns, hk₁, Nat.le_refl _⟩ NC Y Xs Ts) (fun fl s' hl => hl) fun _ _ y => y.elim
end
end Mine
end
section
open PySem PySem.W PyProof.Rows PySem.Calls
namespace Mine
theorem anew_Mu : True := by w_top off; trivial
section
variable {prog : Program} {w : World} {A : Around} {E : Value → Shared → Prop} {s : Shared} {x : Str} {t : Tok} {c1 c2 : Nat}
theorem unpackItems_str2 {Q : List Value → Shared → Prop} (hh : A.handled = none) (hx : x.cps = #[c1, c2])
    (hQ : ∀ h' tk t1 t2, s.heap.StaysIn h' → Q [.str ⟨#[c1]⟩ t1, .str ⟨#[c2]⟩ t2] { s with heap := h', toks := tk }) : wpAny (model prog w) A (unpackItems (.str x t) 2 none) Q E s := by
  unfold unpackItems
  refine wpAny_bind ?_
  · unfold notIterableAtAll
    refine wpAny_bind (wpAny_specialOf (T := "str") (typeIs_str _ _ _) F.slot_str_iter.lookup ?_)
    refine wpAny_pure ?_
    simp only [Bool.false_eq_true, if_false]
    refine wpAny_bind (wpAny_holding (wpAny_pyIter_str fun o St W st => ?_))
    have hn : x.cps.size = 2 := by rw [hx]; rfl
    rw [hn] at W
    have stays : ∀ h', (∀ b o', ¬ b ∈ [s.heap.objs.size] → (s.heap.push o).get? b = some o' → h'.get? b = some o') → s.heap.StaysIn h' := fun h' hk b o' e =>
      hk b o' (fun q => by rw [List.mem_singleton.mp q] at e; exact absurd (Heap.lt_size e) (Nat.lt_irrefl _)) (Heap.get?_push_of_some _ e)
    refine wpAny_bind (wpAny_holding ?_)
    show wpAny _ _ (pyNext _ >>= _) _ _ _
    refine wpAny_bind ((W A hh).item 0 _ _ _ (by decide) st fun v1 h1 tk1 hv1 st1 hk1 => ?_)
    refine wpAny_bind (wpAny_holding ?_)
    show wpAny _ _ (pyNext _ >>= _) _ _ _
    refine wpAny_bind ((W A hh).item 1 _ _ _ (by decide) st1 fun v2 h2 tk2 hv2 st2 hk2 => ?_)
    refine wpAny_bind (wpAny_holding (wpAny_pure ?_))
    refine wpAny_pure (wpAny_pure ?_)
    obtain ⟨d1, u1, e1, rfl⟩ := hv1
    obtain ⟨d2, u2, e2, rfl⟩ := hv2
    rw [hx] at e1 e2
    obtain rfl : c1 = d1 := by simpa using e1
    obtain rfl : c2 = d2 := by simpa using e2
    rw [if_neg (by simp)]
    refine wpAny_bind (wpAny_holding ((W A hh).done _ _ _ st2 fun h3 tk3 hk3 => ?_))
    simp only [Option.isSome_none, Bool.false_eq_true, if_false]
    exact wpAny_pure (hQ h3 tk3 u1 u2 (stays h3 fun b o' n e => hk3 b o' n (hk2 b o' n (hk1 b o' n e))))
theorem assign_str2 {env : Env} {elts : List PySem.Expr} {k} {pos : Pos} {Q : Unit → Shared → Prop} {h₀ : Heap} {L : Addr} {m : Str → Option Value} {news : List (Addr × Obj)} (hh : A.handled = none) (hx : x.cps = #[c1, c2]) (F : Fr h₀ L s.heap m) (N : News h₀ L s.heap news)
    (hn : (assignEach elts env).length = 2) (hstar : (assignEach elts env).findIdx? (·.1) = none)
    (h : ∀ h' tk t1 t2, Fr h₀ L h' m → News h₀ L h' news → wpAny (model prog w) A (assignInOrder ((assignEach elts env).map (·.2)) [.str ⟨#[c1]⟩ t1, .str ⟨#[c2]⟩ t2]) Q E { s with heap := h', toks := tk }) :
    wpAny (model prog w) A (assign (.Tuple elts k pos) env (.str x t)) Q E s := by
  rw [arm_assign_Tuple]
  refine wpAny_bind (wpAny_standAt ?_)
  unfold unpack
  rw [hn, hstar]
  exact wpAny_bind (wpAny_holding (unpackItems_str2 hh hx fun h' tk t1 t2 hk => h h' tk t1 t2 (F.keeps hk) (News.grown N hk)))
end
end Mine
end
section
open PySem PySem.W PyProof.Rows PySem.Calls
namespace Mine
section
open PySem PySem.W PyProof.Rows PySem.Calls
theorem anew_Mn : True := by w_top off; trivial
end
local macro_rules | `(tactic| walk_at "eval ListComp") => `(tactic| ((refine' comp1 ?clos ?cell ?kind ?names ?x ?_); (case clos => with_unfolding_all rfl); (case cell => decide); (case kind => rfl); (case names => decide); (case x => rfl)))
local macro_rules | `(tactic| walk_at "eval Name") => `(tactic| ((with_reducible show wpAny _ _ (eval (Expr.Name _ _) (compEnvC _ _ _ _)) _ _ _); k_dflt (first
  | (refine' c_local ?F ?hv ?_ ?hk ?hx ?hd; (case hk => kernel_rfl!); (case hx => kernel_rfl!); (case hd => decide); (case F => k_asm); (case hv => first | with_reducible assumption | rfl))
  | (refine' c_cell ?F ?hc ?hv ?_ ?hk ?hx ?hd; (case hk => kernel_rfl!); (case hx => kernel_rfl!); (case hd => decide); (case F => k_asm); (case hc => rfl); (case hv => with_reducible assumption))
  | (refine' c_free ?F ?hc ?hv ?_ ?hk ?hx ?hd ?hn; (case hk => kernel_rfl!); (case hx => kernel_rfl!); (case hd => decide); (case hn => decide); (case F => k_asm); (case hc => rfl); (case hv => with_reducible assumption))
  | (refine' c_glob ?F ?X ?T ?e ?_ ?hg ?hk ?hx ?hd; (case hg => rfl); (case hk => kernel_rfl!); (case hx => kernel_rfl!); (case hd => decide); (case F => k_asm); (case X => assumption); (case T => assumption); (case e => k_dflt k_is))
  | (refine' c_boot ?F ?X ?T ?e ?hv ?hn ?_ ?hg ?hb ?hk ?hx ?hd; (case hg => rfl); (case hb => rfl); (case hk => kernel_rfl!); (case hx => kernel_rfl!); (case hd => decide); (case hn => decide); (case F => k_asm); (case X => assumption); (case T => assumption); (case e => k_dflt k_is); (case hv => rfl)))))
section
open PySem PySem.W PyProof.Rows PySem.Calls
def rowD (d : Nat) : Array UInt8 := [#[0, 0, 0], #[0, 0, 0, 251, 239, 190], #[0, 0, 0, 255, 255, 255], #[255, 255, 255]].getD d #[]
def outsD (d : Nat) : List Int := [[65, 65, 65, 65], [65, 65, 65, 65, 43, 43, 43, 43], [65, 65, 65, 65, 47, 47, 47, 47], [47, 47, 47, 47]].getD d []
theorem grpsD {d : Nat} (h : d < 4) : Grps (KBw.bInts (rowD d)) (outsD d) := by
  match d, h with
  | 0, _ => exact Grps.cons (o := [65, 65, 65, 65]) (List.Mem.head _) (fun q => absurd rfl q) .nil
  | 1, _ => exact Grps.cons (o := [65, 65, 65, 65]) (List.Mem.head _) (fun q => absurd rfl q) (Grps.cons (o := [43, 43, 43, 43]) (List.Mem.tail _ (List.Mem.head _)) (fun _ => rfl) .nil)
  | 2, _ => exact Grps.cons (o := [65, 65, 65, 65]) (List.Mem.head _) (fun q => absurd rfl q) (Grps.cons (o := [47, 47, 47, 47]) (List.Mem.tail _ (List.Mem.tail _ (List.Mem.head _))) (fun _ => rfl) .nil)
  | 3, _ => exact Grps.cons (o := [47, 47, 47, 47]) (List.Mem.tail _ (List.Mem.tail _ (List.Mem.head _))) (fun _ => rfl) .nil
theorem outsD_len {d : Nat} (h : d < 4) : (outsD d).length ≤ 900 := by
  match d, h with
  | 0, _ => decide
  | 1, _ => decide
  | 2, _ => decide
  | 3, _ => decide
/-- a number's half's figure -/
def dig (n : Int) (k : Nat) : Nat := (((n.fdiv 2).fdiv (4 ^ k)).fmod 4).toNat
theorem dig_lt (n : Int) (k : Nat) : dig n k < 4 := by
  have h1 := Int.fmod_lt_of_pos ((n.fdiv 2).fdiv (4 ^ k)) (show (0 : Int) < 4 by decide)
  unfold dig; omega
theorem dig_eq (n : Int) (k : Nat) : ((n.fdiv 2).fdiv (4 ^ k)).fmod 4 = (dig n k : Int) := by
  have h0 := Int.fmod_nonneg_of_pos ((n.fdiv 2).fdiv (4 ^ k)) (show (0 : Int) < 4 by decide)
  unfold dig; omega
theorem strs_snoc {vs : List Value} {xs : List Str} (h : StrsAre vs xs) (y : Str) (t : Tok) : StrsAre (vs ++ [.str y t]) (xs ++ [y]) := by
  induction h with
  | nil => exact .cons y t .nil
  | cons z u _ ih => exact .cons z u ih
theorem strs_range {vs : List Value} {f : Nat → Str} {i : Nat} (h : StrsAre vs ((List.range i).map f)) {y : Str} (e : y = f i) (t : Tok) : StrsAre (vs ++ [.str y t]) ((List.range (i + 1)).map f) := by
  rw [List.range_succ, List.map_append, e]
  exact strs_snoc h _ t
theorem b_get {prog : Program} {w : World} {A : Around} {E : Value → Shared → Prop} {s : Shared} {g : Heap} {C l : Addr} {m : Str → Option Value} {vs : List Value} {k : Int} {d : Nat} {t : Tok} {v : Value} {value slice : PySem.Expr} {Q : Value → Shared → Prop} (F : Fr g C s.heap m) (hl : g.IsList l vs.toArray) (e : k = (d : Int)) (hfit : d < 1000) (hv : vs[d]? = some v) (h : Q v s)
    (hs : subscripted slice false (.ref l) (.int k t) = operate [.ref l, .int k t] (getItem (.ref l) (.int k t))) :
    wpAny (model prog w) A (subscriptTail value slice (.ref l) (.int k t)) Q E s := by
  subst e
  have hl' : s.heap.IsList l vs.toArray := hl.at fun o e => F.keep l o e
  exact tail_any hl'.typeIs slot_list_getitem.lookup (wpAny_getItem_list hl' (Int.natCast_nonneg d) (by omega) (by simpa using hv) h) hs
end
local macro_rules | `(tactic| walk_at "subscriptTail") => `(tactic| (k_dflt ((with_reducible show wpAny _ _ (subscriptTail _ _ (Value.ref _) (Value.int _ _)) _ _ _); (with_unfolding_all refine' b_get ?F ?hl ?e ?hf ?v ?_ ?z); (case F => k_asm); (case hl => assumption); (case z => with_unfolding_all rfl); (case e => first | assumption | exact dig_eq _ _); (case v => assumption); (case hf => omega); k_whole)))
local macro_rules | `(tactic| walk_at "getMethod bytes") => `(tactic| (k_dflt ((with_reducible show wpAny _ _ (getMethod (Value.bytes _ _) (Str.ofString "decode") _) _ _ _); refine method_dec ?_)))
local macro_rules | `(tactic| walk_at "call builtin:bytes.decode") => `(tactic| (k_dflt ((refine decodeA (by assumption) ?_); intro t' tk')))
local macro_rules | `(tactic| walk_at "binaryOp Pow int int") => `(tactic| (k_dflt (refine pow_int_small (by omega) (by omega) (by decide) ?_)))
local macro_rules | `(tactic| walk_at "binaryOp FloorDiv int int") => `(tactic| (k_dflt (refine floordiv_int (by decide) ?_ (Or.inl (PyProof.noPylong_of_log2 (by decide +kernel))))))
section
open PySem PySem.W PyProof.Rows PySem.Calls
local macro_rules | `(tactic| walk_at "call ref") => `(tactic| (k_dflt ((with_reducible show wpAny _ _ (call (Value.ref 79) _ _) _ _ _); refine' b64_K (by assumption) (by assumption) _ _ _ _ _ _ _ _ _ ?g ?o ?al ?a ?b ?c ?d ?_; (case g => assumption); (case o => assumption); (case al => assumption); (case a => exact rfl); (case b => exact Fr.keep (by k_asm)); (case c => walk_at "m_depth"); (case d => walk_at "m_units"); (intro h' tk' t' hs'; (with_reducible rename Fr _ _ _ _ => F9); (with_reducible rename News _ _ _ _ => N9); (have F' := F9.keeps hs'); (have N' := News.grown N9 hs'); clear F9 N9; (try dsimp only)))))
section
variable {prog : Program} {w : World} {p : Program} {loose : List Str} {mean : ExcName → Option Value} {mg mb : Str → Option Value} {hb : Heap}
theorem way_K (X : (hd.heap_39 w.params).In hb) (T : Top p loose mean mg mb hb)
    (A : Around) (s : Shared) (Q E : Value → Shared → Prop) (n : Int) (alt : Array UInt8) (t u : Tok) (nm : Nat → Str) (ha : alt.size = 2) (hD : ∀ d, d < 4 → Dec (trans (mkTab #[43, 47] alt) (byteArr (outsD d))) (nm d)) (hh : A.handled = none) (hst : hb.StaysIn s.heap) (hdp : A.depth < 440) (hun : A.units + 600 < cLine)
    (hret : ∀ h' tk' r vs k, s.heap.StaysIn h' → s.heap.get? r = none → h'.get? r = some (listOf vs.toArray k) → StrsAre vs ((List.range (1 + n.fmod 2).toNat).map fun k => nm (dig n k)) → Q (.ref r) { s with heap := h', toks := tk' }) :
    wpAny (model prog w) A (call (.ref 185) [.int n t, .bytes alt u]) Q E s := by
  obtain ⟨hd0, dp, fr, gd, un⟩ := A
  obtain rfl : hd0 = none := hh
  dsimp only at hdp hun
  refine wpAny_call ?_
  have dum : PySem.Challenge.rw_ik0041_01.Holds → (hd.heap_39 w.params).In hb → True := fun _ _ => trivial
  revert dum; k_fill; intro _
  refine' enterC (binds := [(Str.ofString "x", .int n t), (Str.ofString "two", .bytes alt u)]) X T hst ?k2 ?k3 ?k4 ?k6 ?k7 ?k5 ?k8 ?k9 ?k10 ?_
  k_dflt (case k2 => k_is)
  k_dflt (case k3 => k_is)
  case k4 => simp only [recursionLimit]; omega
  case k6 => exact BindsTo.of_eq rfl
  case k7 =>
    intro n x hx
    simp only [List.mem_cons, List.not_mem_nil, or_false] at hx
    first
    | (rcases hx with rfl | rfl <;> first | exact .inl rfl | exact .inr ⟨rfl, rfl⟩)
  case k5 => decide
  case k8 => exact rfl
  case k9 => exact rfl
  case k10 => exact rfl
  intro L' h₁ tk cells F N Y X' T'
  dsimp only
  k_cells Y
  (try dsimp only)
  k_unmd
  k_fold
  (repeat (first | (k_unfold; (try dsimp only)) | ((fail_if_success (with_reducible show wpAny _ _ (eval (Expr.ListComp _ _ _ _) _) _ _ _)); (first | walk1 | (dsimp only; walk1)))))
  refine' comp1 (cl := [(Str.ofString "x", L' + 1), (Str.ofString "two", L' + 1 + 1), (Str.ofString "rows", L' + 1 + 1 + 1)]) ?clos ?cell ?kind ?names ?x ?_
  case cell => decide
  case clos => with_unfolding_all rfl
  case kind => rfl
  case names => decide
  case x => rfl
  k_steps
  rename Fr s.heap L' _ _ => F4
  rename News s.heap L' _ _ => N4
  have hm0 := Int.fmod_nonneg_of_pos n (show (0 : Int) < 2 by decide)
  have hm1 := Int.fmod_lt_of_pos n (show (0 : Int) < 2 by decide)
  refine' go_range (n := (1 + n.fmod 2).toNat) (fun S i ys h => StrsAre ys ((List.range i).map fun k => nm (dig n k))) rfl (by assumption) ?sm ?sz (by omega) ?mono ?h0 ?turn ?done
  case sm => exact small_one (by decide) (by decide) (by omega) (by omega)
  case sz => rw [rangeSize_nat, Int.sub_zero]
  case mono => exact fun _ _ _ _ _ q _ => q
  case h0 => exact fun _ _ _ => .nil
  case done =>
    intro D ys h' tk' k S e1 e2 e3 _ hJ
    dsimp only at e1 e2 e3 ⊢
    refine hret _ _ D ys k (fun b o e => e1 b o (F4.keep b o e)) ?_ e3 hJ
    cases q : s.heap.get? D with
    | none => rfl
    | some o => rw [F4.keep D o q] at e2; cases e2
  case turn =>
    dsimp only
    intro g hg1 hg2 S i v ys C m₃ nws s₃ hi hS0 hSC hS1 hP hJ F3 hm3 N3 hall
    obtain ⟨t', rfl⟩ := hP
    obtain ⟨h3, g3, d3, tk3, o3⟩ := s₃
    refine wpAny_pure ⟨CPost.mk' F3 N3 fun _ q => q, ?_⟩
    rw [if_pos rfl]
    dsimp only at *
    obtain ⟨d, hd4, hdd⟩ : ∃ d, d < 4 ∧ d = dig n i := ⟨_, dig_lt n i, rfl⟩
    have hdec := hD d hd4
    have hG := grpsD hd4
    have hO := outsD_len hd4
    have c1 : CellIs g (L' + 1) (.int n t) := ⟨_, hg1 _ _ (News.get N4 (by k_mem)), by assumption⟩
    have c2 : CellIs g (L' + 1 + 1) (.bytes alt u) := ⟨_, hg1 _ _ (News.get N4 (by k_mem)), by assumption⟩
    obtain ⟨l, t0, t1, t2, t3, c3, hl⟩ : ∃ l t0 t1 t2 t3, CellIs g (L' + 1 + 1 + 1) (.ref l) ∧ g.IsList l [Value.bytes (rowD 0) t0, Value.bytes (rowD 1) t1, Value.bytes (rowD 2) t2, Value.bytes (rowD 3) t3].toArray :=
      ⟨_, _, _, _, _, ⟨_, hg1 _ _ (News.get N4 (by k_mem)), by assumption⟩, PySem.IsL.isList (hg1 _ _ (News.get N4 (by k_mem)))⟩
    have Xg := X'.keeps (stays_trans F4.keep hg1)
    have Tg := T'.keeps (stays_trans F4.keep hg1)
    obtain ⟨tt, hrow⟩ : ∃ tt, [Value.bytes (rowD 0) t0, Value.bytes (rowD 1) t1, Value.bytes (rowD 2) t2, Value.bytes (rowD 3) t3][d]? = some (.bytes (rowD d) tt) := by
      match d, hd4 with
      | 0, _ => exact ⟨_, rfl⟩
      | 1, _ => exact ⟨_, rfl⟩
      | 2, _ => exact ⟨_, rfl⟩
      | 3, _ => exact ⟨_, rfl⟩
    clear F4 N4
    have hi2 : i = 0 ∨ i = 1 := by omega
    rcases hi2 with rfl | rfl
    · rw [show (0 : Int) + ((0 : Nat) : Int) * 1 = 0 from rfl] at hm3
      have e0 : ((n.fdiv 2).fdiv (4 ^ Int.toNat 0)).fmod 4 = (d : Int) := hdd ▸ dig_eq n 0
      k_steps
      · exact CPost.mk' (by assumption) (by assumption) fun _ q => q
      · exact strs_range hJ (congrArg nm hdd) _
    · rw [show (0 : Int) + ((1 : Nat) : Int) * 1 = 1 from rfl] at hm3
      have e0 : ((n.fdiv 2).fdiv (4 ^ Int.toNat 1)).fmod 4 = (d : Int) := hdd ▸ dig_eq n 1
      k_steps
      · exact CPost.mk' (by assumption) (by assumption) fun _ q => q
      · exact strs_range hJ (congrArg nm hdd) _
end
end
section
open PySem PySem.W PyProof.Rows PySem.Calls
theorem anew_Mo : True := by w_top off; trivial
local macro_rules | `(tactic| walk_at "binaryOp Mult str int") => `(tactic| (k_dflt ((refine KXi.mul (n := 1) rfl (by decide) (by decide) (by decide) ?_); intro _ _ kxiZ kxiN)))
local macro_rules | `(tactic| walk_at "assign") => `(tactic| (k_dflt ((refine' assign_str2 ?h ?x ?F ?N ?n ?st ?_); (case h => rfl); (case x => assumption); (case F => k_asm); (case N => k_asm); (case n => rfl); (case st => rfl); k_whole; intro h' tk' t1 t2 F' N')))
section
variable {prog : Program} {w : World} {p : Program} {loose : List Str} {mean : ExcName → Option Value} {mg mb : Str → Option Value} {hb : Heap}
theorem plain_K (X : (hd.heap_39 w.params).In hb) (T : Top p loose mean mg mb hb)
    (A : Around) (s : Shared) (Q E : Value → Shared → Prop) (n : Int) (alt : Array UInt8) (t u : Tok) (nm : Nat → Str) (x2 : Str) (c1 c2 : Nat) (hD : Dec alt x2) (hx : x2.cps = #[c1, c2]) (n0 : nm 0 = Str.ofString "AAAA") (n1 : nm 1 = Str.ofString "AAAA" ++ Txt.mul ⟨#[c1]⟩ 4) (n2 : nm 2 = Str.ofString "AAAA" ++ Txt.mul ⟨#[c2]⟩ 4) (n3 : nm 3 = Txt.mul ⟨#[c2]⟩ 4) (hh : A.handled = none) (hst : hb.StaysIn s.heap) (hdp : A.depth < 440) (hun : A.units + 600 < cLine)
    (hret : ∀ h' tk' r vs k, s.heap.StaysIn h' → s.heap.get? r = none → h'.get? r = some (listOf vs.toArray k) → StrsAre vs ((List.range (1 + n.fmod 2).toNat).map fun k => nm (dig n k)) → Q (.ref r) { s with heap := h', toks := tk' }) :
    wpAny (model prog w) A (call (.ref 190) [.int n t, .bytes alt u]) Q E s := by
  obtain ⟨hd0, dp, fr, gd, un⟩ := A
  obtain rfl : hd0 = none := hh
  dsimp only at hdp hun
  refine wpAny_call ?_
  have dum : PySem.Challenge.rw_ik0041_01.Holds → (hd.heap_39 w.params).In hb → True := fun _ _ => trivial
  revert dum; k_fill; intro _
  refine' enterC (binds := [(Str.ofString "x", .int n t), (Str.ofString "two", .bytes alt u)]) X T hst ?k2 ?k3 ?k4 ?k6 ?k7 ?k5 ?k8 ?k9 ?k10 ?_
  k_dflt (case k2 => k_is)
  k_dflt (case k3 => k_is)
  case k4 => simp only [recursionLimit]; omega
  case k6 => exact BindsTo.of_eq rfl
  case k7 =>
    intro n x hx
    simp only [List.mem_cons, List.not_mem_nil, or_false] at hx
    first
    | (rcases hx with rfl | rfl <;> first | exact .inl rfl | exact .inr ⟨rfl, rfl⟩)
  case k5 => decide
  case k8 => exact rfl
  case k9 => exact rfl
  case k10 => exact rfl
  intro L' h₁ tk cells F N Y X' T'
  dsimp only
  k_cells Y
  (try dsimp only)
  k_unmd
  k_fold
  (repeat (first | (k_unfold; (try dsimp only)) | ((fail_if_success (with_reducible show wpAny _ _ (eval (Expr.ListComp _ _ _ _) _) _ _ _)); (first | walk1 | (dsimp only; walk1)))))
  refine' comp1 (cl := [(Str.ofString "x", L' + 1), (Str.ofString "names", L' + 1 + 1)]) ?clos ?cell ?kind ?names ?x ?_
  case cell => decide
  case clos => with_unfolding_all rfl
  case kind => rfl
  case names => decide
  case x => rfl
  k_steps
  rename Fr s.heap L' _ _ => F4
  rename News s.heap L' _ _ => N4
  have hm0 := Int.fmod_nonneg_of_pos n (show (0 : Int) < 2 by decide)
  have hm1 := Int.fmod_lt_of_pos n (show (0 : Int) < 2 by decide)
  refine' go_range (n := (1 + n.fmod 2).toNat) (fun S i ys h => StrsAre ys ((List.range i).map fun k => nm (dig n k))) rfl (by assumption) ?sm ?sz (by omega) ?mono ?h0 ?turn ?done
  case sm => exact small_one (by decide) (by decide) (by omega) (by omega)
  case sz => rw [rangeSize_nat, Int.sub_zero]
  case mono => exact fun _ _ _ _ _ q _ => q
  case h0 => exact fun _ _ _ => .nil
  case done =>
    intro D ys h' tk' k S e1 e2 e3 _ hJ
    dsimp only at e1 e2 e3 ⊢
    refine hret _ _ D ys k (fun b o e => e1 b o (F4.keep b o e)) ?_ e3 hJ
    cases q : s.heap.get? D with
    | none => rfl
    | some o => rw [F4.keep D o q] at e2; cases e2
  case turn =>
    dsimp only
    intro g hg1 hg2 S i v ys C m₃ nws s₃ hi hS0 hSC hS1 hP hJ F3 hm3 N3 hall
    obtain ⟨t', rfl⟩ := hP
    obtain ⟨h3, g3, d3, tk3, o3⟩ := s₃
    refine wpAny_pure ⟨CPost.mk' F3 N3 fun _ q => q, ?_⟩
    rw [if_pos rfl]
    dsimp only at *
    obtain ⟨d, hd4, hdd⟩ : ∃ d, d < 4 ∧ d = dig n i := ⟨_, dig_lt n i, rfl⟩
    have c1' : CellIs g (L' + 1) (.int n t) := ⟨_, hg1 _ _ (News.get N4 (by k_mem)), by assumption⟩
    obtain ⟨l, t0, t1, t2, t3, c3, hl⟩ : ∃ l t0 t1 t2 t3, CellIs g (L' + 1 + 1) (.ref l) ∧ g.IsList l [Value.str (nm 0) t0, Value.str (nm 1) t1, Value.str (nm 2) t2, Value.str (nm 3) t3].toArray := by
      rw [n0, n1, n2, n3]
      exact ⟨_, _, _, _, _, ⟨_, hg1 _ _ (News.get N4 (by k_mem)), by assumption⟩, PySem.IsL.isList (hg1 _ _ (News.get N4 (by k_mem)))⟩
    obtain ⟨tt, hrow⟩ : ∃ tt, [Value.str (nm 0) t0, Value.str (nm 1) t1, Value.str (nm 2) t2, Value.str (nm 3) t3][d]? = some (.str (nm d) tt) := by
      match d, hd4 with
      | 0, _ => exact ⟨_, rfl⟩
      | 1, _ => exact ⟨_, rfl⟩
      | 2, _ => exact ⟨_, rfl⟩
      | 3, _ => exact ⟨_, rfl⟩
    clear F4 N4
    have hi2 : i = 0 ∨ i = 1 := by omega
    rcases hi2 with rfl | rfl
    · rw [show (0 : Int) + ((0 : Nat) : Int) * 1 = 0 from rfl] at hm3
      have e0 : ((n.fdiv 2).fdiv (4 ^ Int.toNat 0)).fmod 4 = (d : Int) := hdd ▸ dig_eq n 0
      k_steps
      · exact CPost.mk' (by assumption) (by assumption) fun _ q => q
      · exact strs_range hJ (congrArg nm hdd) _
    · rw [show (0 : Int) + ((1 : Nat) : Int) * 1 = 1 from rfl] at hm3
      have e0 : ((n.fdiv 2).fdiv (4 ^ Int.toNat 1)).fmod 4 = (d : Int) := hdd ▸ dig_eq n 1
      k_steps
      · exact CPost.mk' (by assumption) (by assumption) fun _ q => q
      · exact strs_range hJ (congrArg nm hdd) _
end
end
section
open PySem PySem.W PyProof.Rows PySem.Calls PySem.Builtin
theorem anew_Mr : True := by w_top off; trivial
/-- the two signs of the pair j -/
def altOf (j : Nat) : Array UInt8 := [#[43, 45], #[45, 95], #[95, 126], #[126, 33]].getD j #[]
def twoS (j : Nat) : Str := [Str.ofString "+-", Str.ofString "-_", Str.ofString "_~", Str.ofString "~!"].getD j Str.empty
def nameS (j d : Nat) : Str := ([[Str.ofString "AAAA", Str.ofString "AAAA++++", Str.ofString "AAAA----", Str.ofString "----"], [Str.ofString "AAAA", Str.ofString "AAAA----", Str.ofString "AAAA____", Str.ofString "____"],
  [Str.ofString "AAAA", Str.ofString "AAAA____", Str.ofString "AAAA~~~~", Str.ofString "~~~~"], [Str.ofString "AAAA", Str.ofString "AAAA~~~~", Str.ofString "AAAA!!!!", Str.ofString "!!!!"]].getD j []).getD d Str.empty
theorem altOf_size {j : Nat} (h : j < 4) : (altOf j).size = 2 := by
  match j, h with
  | 0, _ => rfl
  | 1, _ => rfl
  | 2, _ => rfl
  | 3, _ => rfl
theorem dec_two {j : Nat} (h : j < 4) : Dec (altOf j) (twoS j) := by
  match j, h with
  | 0, _ => exact ⟨by decide +kernel, fun id => ⟨2, by kernel_rfl⟩, by decide +kernel⟩
  | 1, _ => exact ⟨by decide +kernel, fun id => ⟨2, by kernel_rfl⟩, by decide +kernel⟩
  | 2, _ => exact ⟨by decide +kernel, fun id => ⟨2, by kernel_rfl⟩, by decide +kernel⟩
  | 3, _ => exact ⟨by decide +kernel, fun id => ⟨2, by kernel_rfl⟩, by decide +kernel⟩
theorem dec_name {j d : Nat} (h : j < 4) (hd : d < 4) : Dec (trans (mkTab #[43, 47] (altOf j)) (byteArr (outsD d))) (nameS j d) := by
  match j, h, d, hd with
  | 0, _, 0, _ => exact ⟨by decide +kernel, fun id => ⟨4, by kernel_rfl⟩, by decide +kernel⟩
  | 0, _, 1, _ => exact ⟨by decide +kernel, fun id => ⟨8, by kernel_rfl⟩, by decide +kernel⟩
  | 0, _, 2, _ => exact ⟨by decide +kernel, fun id => ⟨8, by kernel_rfl⟩, by decide +kernel⟩
  | 0, _, 3, _ => exact ⟨by decide +kernel, fun id => ⟨4, by kernel_rfl⟩, by decide +kernel⟩
  | 1, _, 0, _ => exact ⟨by decide +kernel, fun id => ⟨4, by kernel_rfl⟩, by decide +kernel⟩
  | 1, _, 1, _ => exact ⟨by decide +kernel, fun id => ⟨8, by kernel_rfl⟩, by decide +kernel⟩
  | 1, _, 2, _ => exact ⟨by decide +kernel, fun id => ⟨8, by kernel_rfl⟩, by decide +kernel⟩
  | 1, _, 3, _ => exact ⟨by decide +kernel, fun id => ⟨4, by kernel_rfl⟩, by decide +kernel⟩
  | 2, _, 0, _ => exact ⟨by decide +kernel, fun id => ⟨4, by kernel_rfl⟩, by decide +kernel⟩
  | 2, _, 1, _ => exact ⟨by decide +kernel, fun id => ⟨8, by kernel_rfl⟩, by decide +kernel⟩
  | 2, _, 2, _ => exact ⟨by decide +kernel, fun id => ⟨8, by kernel_rfl⟩, by decide +kernel⟩
  | 2, _, 3, _ => exact ⟨by decide +kernel, fun id => ⟨4, by kernel_rfl⟩, by decide +kernel⟩
  | 3, _, 0, _ => exact ⟨by decide +kernel, fun id => ⟨4, by kernel_rfl⟩, by decide +kernel⟩
  | 3, _, 1, _ => exact ⟨by decide +kernel, fun id => ⟨8, by kernel_rfl⟩, by decide +kernel⟩
  | 3, _, 2, _ => exact ⟨by decide +kernel, fun id => ⟨8, by kernel_rfl⟩, by decide +kernel⟩
  | 3, _, 3, _ => exact ⟨by decide +kernel, fun id => ⟨4, by kernel_rfl⟩, by decide +kernel⟩
end
section
open PySem PySem.W PyProof.Rows PySem.Calls PySem.SeqAt
theorem anew_Mz : True := by w_top off; trivial
theorem pick_upto {vs : List Value} {y : Int} {k : Nat} (h : y = (k : Int)) : (slicePick vs.toArray none (some y) none).toList = vs.take k := by
  subst h
  have e : sliceBounds none (some (k : Int)) none vs.toArray.size = (((0 : Nat) : Int), ((min k vs.toArray.size : Nat) : Int), 1) := by
    simp only [sliceBounds, Option.getD_none, show (1 : Int) > 0 by decide, if_true, if_neg (show ¬ ((k : Int) < 0) by omega)]
    congr 1
    congr 1
    omega
  rw [kmk_pick_nat _ e]
  show (vs.drop 0).take (min k vs.toArray.size - 0) = _
  rw [List.drop_zero, Nat.sub_zero, List.size_toArray, kmk_take_min]
theorem readsAll_strs {h : Heap} : ∀ {vs : List Value} {xs : List Str}, StrsAre vs xs → ReadsAll h vs (xs.map PyData.str) []
  | _, _, .nil => .nil
  | _, _, .cons y t r => by
    have q := ReadsAll.cons (Reads.str (h := h) y t) (readsAll_strs r)
    exact q
theorem reads_strs {h : Heap} {a : Addr} {vs : List Value} {xs : List Str} (e : h.IsList a vs.toArray) (H : StrsAre vs xs) : Reads h (.ref a) (.list (xs.map PyData.str)) [a] := by
  obtain ⟨o, ho, hc, n, hd⟩ := e
  exact .list ho hc hd (by simpa using readsAll_strs H)
theorem strs_take {vs : List Value} {xs : List Str} (H : StrsAre vs xs) : ∀ k, StrsAre (vs.take k) (xs.take k) := by
  induction H with
  | nil => intro k; simp; exact .nil
  | cons y t _ ih => intro k; cases k with
    | zero => exact .nil
    | succ k => exact .cons y t (ih k)
theorem strs_drop {vs : List Value} {xs : List Str} (H : StrsAre vs xs) : ∀ k, StrsAre (vs.drop k) (xs.drop k) := by
  induction H with
  | nil => intro k; simp; exact .nil
  | cons y t r ih => intro k; cases k with
    | zero => exact .cons y t r
    | succ k => exact ih k
def OkS (xs : List Str) : Prop := ∀ x ∈ xs, PyData.strOk x = true
theorem OkS.take {xs : List Str} (H : OkS xs) (k : Nat) : OkS (xs.take k) := fun x hx => H x (List.mem_of_mem_take hx)
theorem lay_strs : ∀ {xs : List Str}, OkS xs → PyData.canLayAll0 (xs.map PyData.str) = true ∧ PyData.depthAll (xs.map PyData.str) = 0
  | [], _ => ⟨by simp [PyData.canLayAll0], by simp [PyData.depthAll]⟩
  | x :: xs, H => by
    have q := lay_strs (xs := xs) fun y hy => H y (.tail _ hy)
    have p := H x (.head _)
    exact ⟨by simp [PyData.canLayAll0, PyData.canLay0, p, q.1], by simp [PyData.depthAll, PyData.depth, q.2]⟩
theorem shaped_strs {xs : List Str} (H : OkS xs) : shaped (.list (xs.map PyData.str)) = true := by
  have q := lay_strs H
  simp [shaped, PyData.canLay0, PyData.depth, q.1, q.2]
theorem eqvAll_strs : ∀ (xs ys : List Str), PyData.eqvAll (xs.map PyData.str) (ys.map PyData.str) = decide (xs = ys)
  | [], [] => by simp [PyData.eqvAll]
  | [], _ :: _ => by simp [PyData.eqvAll]
  | _ :: _, [] => by simp [PyData.eqvAll]
  | x :: xs, y :: ys => by
    have q := eqvAll_strs xs ys
    simp only [List.map_cons, PyData.eqvAll, PyData.eqv, q]
    by_cases hx : x = y
    · subst hx; simp
    · simp [hx]
theorem eqv_strs (xs ys : List Str) : PyData.eqv (.list (xs.map PyData.str)) (.list (ys.map PyData.str)) = decide (xs = ys) := by
  simp only [PyData.eqv, eqvAll_strs]
/-- lists of lists of strs -/
def dataL (ws : List (List Str)) : List PyData := ws.map fun w => PyData.list (w.map PyData.str)
theorem lay_lists : ∀ {ws : List (List Str)}, (∀ w ∈ ws, OkS w) → PyData.canLayAll0 (dataL ws) = true ∧ PyData.depthAll (dataL ws) ≤ 1
  | [], _ => ⟨by simp [dataL, PyData.canLayAll0], by simp [dataL, PyData.depthAll]⟩
  | x :: xs, H => by
    have q := lay_lists (ws := xs) fun y hy => H y (.tail _ hy)
    have p := lay_strs (H x (.head _))
    refine ⟨?_, ?_⟩
    · show (PyData.canLay0 (.list (x.map PyData.str)) && PyData.canLayAll0 (dataL xs)) = true
      rw [q.1]
      simp [PyData.canLay0, p.1]
    · show max (PyData.depth (.list (x.map PyData.str))) (PyData.depthAll (dataL xs)) ≤ 1
      have : PyData.depth (.list (x.map PyData.str)) = 1 := by simp [PyData.depth, p.2]
      omega
theorem shaped_lists {ws : List (List Str)} (H : ∀ w ∈ ws, OkS w) : shaped (.list (dataL ws)) = true := by
  have q := lay_lists H
  have q2 := q.2
  have e : shaped (.list (dataL ws)) = (PyData.canLayAll0 (dataL ws) && decide (PyData.depthAll (dataL ws) + 1 ≤ 64)) := by simp [shaped, PyData.canLay0, PyData.depth]
  rw [e, q.1, Bool.true_and]
  exact decide_eq_true (by omega)
theorem eqvAll_lists : ∀ (xs ys : List (List Str)), PyData.eqvAll (dataL xs) (dataL ys) = decide (xs = ys)
  | [], [] => by simp [dataL, PyData.eqvAll]
  | [], _ :: _ => by simp [dataL, PyData.eqvAll]
  | _ :: _, [] => by simp [dataL, PyData.eqvAll]
  | x :: xs, y :: ys => by
    have q := eqvAll_lists xs ys
    show (PyData.eqv (.list (x.map PyData.str)) (.list (y.map PyData.str)) && PyData.eqvAll (dataL xs) (dataL ys)) = _
    rw [eqv_strs, q]
    by_cases hx : x = y
    · subst hx; simp
    · simp [hx]
theorem eqv_lists (xs ys : List (List Str)) : PyData.eqv (.list (dataL xs)) (.list (dataL ys)) = decide (xs = ys) := by
  simp only [PyData.eqv, eqvAll_lists]
theorem ifs_one {M : Model} {A : Around} {E : Value → Shared → Prop} {s : Shared} {c : PySem.Expr} {env : Env} {Q : Bool → Shared → Prop} (h : wpAny M A (isTrue c env (eval c env)) Q E s) :
    wpAny M A (forIn [c] true fun c r => if r = true then do let ok ← isTrue c env (eval c env); pure (ForInStep.yield ok) else pure (ForInStep.yield r)) Q E s := by
  have e : (forIn [c] true fun c r => if r = true then do let ok ← isTrue c env (eval c env); pure (ForInStep.yield ok) else pure (ForInStep.yield r)) = (isTrue c env (eval c env) >>= fun ok => pure (ForInStep.yield ok)) >>= fun r => (match r with | .done b => pure b | .yield b => pure b) := by
    simp only [List.forIn_cons, List.forIn_nil, if_true]
    refine congrArg _ (funext fun x => ?_)
    cases x <;> rfl
  rw [e]
  exact wpAny_bind (wpAny_bind (wpAny_mono h (fun ok s₁ q => wpAny_pure (wpAny_pure q)) fun _ _ q => q))
theorem b_len {prog : Program} {w : World} {A : Around} {E : Value → Shared → Prop} {s : Shared} {g : Heap} {C l : Addr} {m : Str → Option Value} {vs : List Value} {Q : Value → Shared → Prop} (F : Fr g C s.heap m) (hl : g.IsList l vs.toArray) (hlen : vs.length < 1000)
    (h : ∀ t tk, Q (.int (vs.length : Int) t) { s with toks := tk }) : wpAny (model prog w) A (call (.builtin "len") [.ref l]) Q E s := by
  have hl' : s.heap.IsList l vs.toArray := hl.at fun o e => F.keep l o e
  refine call_len_list hl' (by rw [List.size_toArray]; omega) ?_
  rw [List.size_toArray]
  exact h _ _
theorem s_len {prog : Program} {w : World} {A : Around} {E : Value → Shared → Prop} {s : Shared} {l : Addr} {vs : List Value} {Q : Value → Shared → Prop} (hl : s.heap.IsList l vs.toArray) (hlen : vs.length < 1000)
    (h : ∀ t tk, Q (.int (vs.length : Int) t) { s with toks := tk }) : wpAny (model prog w) A (call (.builtin "len") [.ref l]) Q E s := by
  refine call_len_list hl (by rw [List.size_toArray]; omega) ?_
  rw [List.size_toArray]
  exact h _ _
/-- == of two lists of strs, wherever they lie -/
theorem cmp_eq_strs {prog : Program} {w : World} {A : Around} {E : Value → Shared → Prop} {s : Shared} {a b : Addr} {vs us : List Value} {xs ys : List Str} {Q : Value → Shared → Prop} (ha : s.heap.IsList a vs.toArray) (hb : s.heap.IsList b us.toArray)
    (hx : StrsAre vs xs) (hy : StrsAre us ys) (ox : OkS xs) (oy : OkS ys) (hu : A.units + 64 < cLine) (h : Q (.bool (decide (xs = ys))) s) : wpAny (model prog w) A (compareOp .Eq (.ref a) (.ref b)) Q E s :=
  eq_dataH (reads_strs ha hx) (reads_strs hb hy) (shaped_strs ox) (shaped_strs oy) hu (by rw [eqv_strs]; exact h)
theorem sl1 (v : Value) : (slicePick [v].toArray none (some (-1)) none).toList = [] := rfl
theorem sl2 (v u : Value) : (slicePick [v, u].toArray none (some (-1)) none).toList = [v] := by
  have e : sliceBounds none (some (-1)) none [v, u].toArray.size = (((0 : Nat) : Int), ((1 : Nat) : Int), 1) := by simp only [List.size_toArray, List.length]; decide
  rw [kmk_pick_nat _ e]
  rfl
theorem sl3 (v : Value) : (slicePick [v].toArray (some (-1)) none none).toList = [v] := by
  have e : sliceBounds (some (-1)) none none [v].toArray.size = (((0 : Nat) : Int), ((1 : Nat) : Int), 1) := by simp only [List.size_toArray, List.length]; decide
  rw [kmk_pick_nat _ e]
  rfl
theorem sl4 (v u : Value) : (slicePick [v, u].toArray (some (-1)) none none).toList = [u] := by
  have e : sliceBounds (some (-1)) none none [v, u].toArray.size = (((1 : Nat) : Int), ((2 : Nat) : Int), 1) := by simp only [List.size_toArray, List.length]; decide
  rw [kmk_pick_nat _ e]
  rfl
end
section
open PySem PySem.W PyProof.Rows PySem.Calls
theorem anew_Mz2 : True := by w_top off; trivial
end
local macro_rules | `(tactic| walk_at "subscriptTail Name Slice ref ref") => `(tactic| (k_dflt ((with_unfolding_all refine' kmk_slice_lit ?F ?N ?hl ?pl ?pu ?e ?_ ?hs ?ht ?hz); (case F => k_asm); (case N => k_asm); (case hl => exact PySem.Heap.IsList.at (by assumption) (Fr.keep (by k_asm) _)); (case pl => first | exact .none | exact .int _ _); (case pu => first | exact .none | exact .int _ _); (case e => first | exact pick_upto (by assumption) | exact sl1 _ | exact sl2 _ _ | exact sl3 _ | exact sl4 _ _); (case hs => with_unfolding_all rfl); (case ht => (intro _; with_unfolding_all rfl)); (case hz => (rw [List.size_toArray, sizeLine_eq]; omega)); k_whole; intro D' h' F' N' l1)))
section
open PySem PySem.W PyProof.Rows PySem.Calls
theorem getD_le {xs : List Str} (h : ∀ x ∈ xs, x.length ≤ 100) (k : Nat) : (xs.getD k Str.empty).length ≤ 100 := by
  rw [List.getD_eq_getElem?_getD]
  cases e : xs[k]? with
  | none => simp; decide
  | some y => exact h y (List.mem_of_getElem? e)
def alikeS (x y : List Str) : Nat := ((List.range (min x.length y.length)).filter fun k => decide (x.take (k + 1) = y.take (k + 1))).length
/-- what _law_turned answers -/
def turnedS (x y : List Str) : Bool :=
  if alikeS x y + 1 < x.length ∧ alikeS x y < y.length then
    (Txt.slice (y.getD (alikeS x y) Str.empty) none (some ((x.getD (alikeS x y) Str.empty).length : Int)) == x.getD (alikeS x y) Str.empty &&
      (decide ((Txt.slice (y.getD (alikeS x y) Str.empty) (some ((x.getD (alikeS x y) Str.empty).length : Int)) (some (((x.getD (alikeS x y) Str.empty).length : Int) + 1))).cps.toList < (Str.ofString "/").cps.toList) &&
        y.getD (alikeS x y) Str.empty != x.getD (alikeS x y) Str.empty))
  else false
theorem strs_getD {vs : List Value} {xs : List Str} (H : StrsAre vs xs) {k : Nat} (h : k < vs.length) : ∃ t, vs[k]? = some (.str (xs.getD k Str.empty) t) := by
  have hl := H.length
  refine H.at (j := k) ?_
  rw [List.getD_eq_getElem?_getD, List.getElem?_eq_getElem (by omega)]
  rfl
end
local macro_rules | `(tactic| walk_at "subscriptTail Name Name ref int") => `(tactic| (k_dflt ((with_reducible show wpAny _ _ (subscriptTail _ _ (Value.ref _) (Value.int _ _)) _ _ _); (with_unfolding_all refine' b_get ?gF ?ghl ?ge ?ghf ?gv ?_ ?gz); (case gF => k_asm); (case ghl => assumption); (case gz => with_unfolding_all rfl); (case ge => first | assumption | rfl); (case gv => assumption); (case ghf => omega); k_whole)))
section
open PySem PySem.W PyProof.Rows PySem.Calls
local macro_rules | `(tactic| walk_at "compareOp Eq ref ref") => `(tactic| (k_dflt ((with_reducible show wpAny _ _ (compareOp _ (Value.ref _) (Value.ref _)) _ _ _); (refine' cmp_eq_strs ?eqa ?eqb ?eqx ?eqy ?eqo ?eqp ?equ ?_); (case eqa => exact News.isList (by k_asm) (by k_mem)); (case eqb => exact News.isList (by k_asm) (by k_mem)); (case eqx => exact strs_take (by assumption) _); (case eqy => exact strs_take (by assumption) _); (case eqo => exact OkS.take (by assumption) _); (case eqp => exact OkS.take (by assumption) _); (case equ => walk_at "m_units"); k_whole)))
local macro_rules | `(tactic| walk_at "call builtin:len") => `(tactic| (k_dflt ((refine' b_len ?F ?hl ?hn ?_); (case F => k_asm); (case hl => assumption); (case hn => omega); k_whole; intro t' tk')))
section
variable {prog : Program} {w : World} {p : Program} {loose : List Str} {mean : ExcName → Option Value} {mg mb : Str → Option Value} {hb : Heap}
theorem turned_K (X : (hd.heap_39 w.params).In hb) (T : Top p loose mean mg mb hb)
    (A : Around) (s : Shared) (Q E : Value → Shared → Prop) (a1 a2 : Addr) (v1 v2 : List Value) (x1 x2 : List Str) (H1 : StrsAre v1 x1) (H2 : StrsAre v2 x2) (o1 : OkS x1) (o2 : OkS x2) (L1 : hb.IsList a1 v1.toArray) (L2 : hb.IsList a2 v2.toArray) (b1 : x1.length ≤ 2) (b2 : x2.length ≤ 2) (z1 : ∀ x ∈ x1, x.length ≤ 100) (z2 : ∀ x ∈ x2, x.length ≤ 100) (hh : A.handled = none) (hst : hb.StaysIn s.heap) (hdp : A.depth < 440) (hun : A.units + 600 < cLine)
    (hret : ∀ h' tk', s.heap.StaysIn h' → Q (.bool (turnedS x1 x2)) { s with heap := h', toks := tk' }) :
    wpAny (model prog w) A (call (.ref 209) [.ref a1, .ref a2]) Q E s := by
  obtain ⟨hd0, dp, fr, gd, un⟩ := A
  obtain rfl : hd0 = none := hh
  dsimp only at hdp hun
  refine wpAny_call ?_
  have dum : PySem.Challenge.rw_ik0041_01.Holds → (hd.heap_39 w.params).In hb → True := fun _ _ => trivial
  revert dum; k_fill; intro _
  refine' enterC (binds := [(Str.ofString "one", .ref a1), (Str.ofString "two", .ref a2)]) X T hst ?k2 ?k3 ?k4 ?k6 ?k7 ?k5 ?k8 ?k9 ?k10 ?_
  k_dflt (case k2 => k_is)
  k_dflt (case k3 => k_is)
  case k4 => simp only [recursionLimit]; omega
  case k6 => exact BindsTo.of_eq rfl
  case k7 =>
    intro n x hx
    simp only [List.mem_cons, List.not_mem_nil, or_false] at hx
    first
    | (rcases hx with rfl | rfl <;> first | exact .inl rfl | exact .inr ⟨rfl, rfl⟩)
  case k5 => decide
  case k8 => exact rfl
  case k9 => exact rfl
  case k10 => exact rfl
  intro L' h₁ tk cells F N Y X' T'
  dsimp only
  k_cells Y
  (try dsimp only)
  k_unmd
  k_fold
  have L1' : s.heap.IsList a1 v1.toArray := L1.at fun o e => hst _ o e
  have L2' : s.heap.IsList a2 v2.toArray := L2.at fun o e => hst _ o e
  have l1 := H1.length
  have l2 := H2.length
  (repeat (first | (k_unfold; (try dsimp only)) | ((fail_if_success (with_reducible show wpAny _ _ (eval (Expr.ListComp _ _ _ _) _) _ _ _)); (first | walk1 | (dsimp only; walk1)))))
  refine' comp1 (cl := [(Str.ofString "two", L' + 1 + 1), (Str.ofString "one", L' + 1)]) ?clos ?cell ?kind ?names ?x ?_
  case cell => decide
  case clos => with_unfolding_all rfl
  case kind => rfl
  case names => decide
  case x => rfl
  k_steps
  rename Fr s.heap L' _ _ => F4
  rename News s.heap L' _ _ => N4
  have emin : (if (v2.length : Int) < (v1.length : Int) then (v2.length : Int) else (v1.length : Int)) = ((min v1.length v2.length : Nat) : Int) := by split <;> omega
  refine' go_range (n := min v1.length v2.length) (fun S i ys h => ys.length = ((List.range i).filter fun k => decide (x1.take (k + 1) = x2.take (k + 1))).length) rfl (by assumption) ?sm ?sz (by omega) ?mono ?h0 ?turn ?done
  case sm => rw [emin]; exact small_one (by decide) (by decide) (by omega) (by omega)
  case sz => rw [rangeSize_nat, emin, Int.sub_zero]; simp
  case mono => exact fun _ _ _ _ _ q _ => q
  case h0 => exact fun _ _ _ => rfl
  case done =>
    intro D ys h' tk' k S e1 e2 e3 _ hJ
    dsimp only at e1 e2 e3 ⊢
    have F5 := F4.keeps e1
    have N5 := News.grown N4 e1
    have L1' := L1'.at fun o e => e1 _ o (F4.keep _ o e)
    have L2' := L2'.at fun o e => e1 _ o (F4.keep _ o e)
    clear F4 N4
    k_steps
    have ylt : ys.length ≤ min v1.length v2.length := by have := List.length_filter_le (fun k => decide (x1.take (k + 1) = x2.take (k + 1))) (List.range (min v1.length v2.length)); rw [List.length_range] at this; omega
    refine s_len ⟨_, e3, rfl, _, rfl⟩ (by omega) ?_
    k_whole
    intro tl tk1
    generalize hA : ys.length = al at *
    by_cases hin : al + 1 < v1.length ∧ al < v2.length
    · obtain ⟨pp, hpp⟩ : ∃ pp, pp = x1.getD al Str.empty := ⟨_, rfl⟩
      obtain ⟨qq, hqq⟩ : ∃ qq, qq = x2.getD al Str.empty := ⟨_, rfl⟩
      have p1 : pp.length ≤ 100 := hpp ▸ getD_le z1 al
      have p2 : qq.length ≤ 100 := hqq ▸ getD_le z2 al
      obtain ⟨t1, g1⟩ : ∃ t, v1[al]? = some (.str pp t) := hpp ▸ strs_getD H1 (by omega)
      obtain ⟨t2, g2⟩ : ∃ t, v2[al]? = some (.str qq t) := hqq ▸ strs_getD H2 (by omega)
      have hal : al = alikeS x1 x2 := by rw [hJ, l1, l2]; rfl
      have hT : turnedS x1 x2 = (Txt.slice qq none (some (pp.length : Int)) == pp && (decide ((Txt.slice qq (some (pp.length : Int)) (some ((pp.length : Int) + 1))).cps.toList < (Str.ofString "/").cps.toList) && qq != pp)) := by
        unfold turnedS
        rw [← hal, if_pos (by omega), ← hpp, ← hqq]
      have key : ∀ b : Bool, b = turnedS x1 x2 → ∀ h' tk', s.heap.StaysIn h' → Q (.bool b) { s with heap := h', toks := tk' } := fun b e => e ▸ hret
      clear H1 H2 hJ hpp hqq hret hal
      k_steps
      · have a1 : (Txt.slice qq none (some (pp.length : Int)) == pp) = true := by assumption
        have a2 : (Txt.slice qq (some (pp.length : Int)) (some ((pp.length : Int) + 1))).cps.toList < (Str.ofString "/").cps.toList := by assumption
        exact key _ (by rw [hT, a1, decide_eq_true a2, Bool.true_and, Bool.true_and]) _ _ fun b o e => Fr.keep (by k_asm) b o e
      · have a1 : (Txt.slice qq none (some (pp.length : Int)) == pp) = true := by assumption
        have a2 : ¬ (Txt.slice qq (some (pp.length : Int)) (some ((pp.length : Int) + 1))).cps.toList < (Str.ofString "/").cps.toList := by assumption
        exact key _ (by rw [hT, a1, decide_eq_false a2, Bool.true_and, Bool.false_and]) _ _ fun b o e => Fr.keep (by k_asm) b o e
      · have a1 : (Txt.slice qq none (some (pp.length : Int)) == pp) = false := by assumption
        exact key _ (by rw [hT, a1, Bool.false_and]) _ _ fun b o e => Fr.keep (by k_asm) b o e
    · have hal : al = alikeS x1 x2 := by rw [hJ, l1, l2]; rfl
      have hT : turnedS x1 x2 = false := by
        unfold turnedS
        rw [← hal, if_neg (by omega)]
      rw [hT] at hret
      clear H1 H2 hJ hal
      k_steps
      · exact hret _ _ fun b o e => Fr.keep (by k_asm) b o e
      · exact hret _ _ fun b o e => Fr.keep (by k_asm) b o e
  case turn =>
    dsimp only
    intro g hg1 hg2 S i v ys C m₃ nws s₃ hi hS0 hSC hS1 hP hJ F3 hm3 N3 hall
    obtain ⟨t', rfl⟩ := hP
    obtain ⟨h3, g3, d3, tk3, o3⟩ := s₃
    dsimp only at *
    have c1 : CellIs g (L' + 1) (.ref a1) := ⟨_, hg1 _ _ (News.get N4 (by k_mem)), by assumption⟩
    have c2 : CellIs g (L' + 1 + 1) (.ref a2) := ⟨_, hg1 _ _ (News.get N4 (by k_mem)), by assumption⟩
    have M1 : g.IsList a1 v1.toArray := L1'.at fun o e => hg1 _ _ (F4.keep _ _ e)
    have M2 : g.IsList a2 v2.toArray := L2'.at fun o e => hg1 _ _ (F4.keep _ _ e)
    clear F4 N4 L1' L2'
    refine ifs_one ?_
    have ei : (0 : Int) + (i : Int) * 1 + 1 = ((i + 1 : Nat) : Int) := by omega
    k_steps
    · exact CPost.mk' (by assumption) (by assumption) fun _ q => .tail _ (.tail _ q)
    · exact CPost.mk' (by assumption) (by assumption) fun _ q => .tail _ (.tail _ q)
    · rw [List.range_succ, List.filter_append, List.length_append, List.length_append, hJ]; simp [*]
    · rw [List.range_succ, List.filter_append, List.length_append, hJ]; simp [*]
end
end
section
open PySem PySem.W PyProof.Rows PySem.Calls PySem.SeqAt
theorem anew_Mla : True := by w_top off; trivial
/-- lists of lists of strs, their inner lists where R says -/
inductive LR (R : Addr → Obj → Prop) : List Value → List (List Str) → Prop
  | nil : LR R [] []
  | cons {a : Addr} {vs : List Value} {n : Nat} {w : List Str} {r : List Value} {ws : List (List Str)} : R a (listOf vs.toArray n) → StrsAre vs w → LR R r ws → LR R (.ref a :: r) (w :: ws)
theorem LR.mono {R R' : Addr → Obj → Prop} (k : ∀ a o, R a o → R' a o) : ∀ {ys : List Value} {ws : List (List Str)}, LR R ys ws → LR R' ys ws
  | _, _, .nil => .nil
  | _, _, .cons h s r => .cons (k _ _ h) s (LR.mono k r)
theorem LR.length {R : Addr → Obj → Prop} {ys : List Value} {ws : List (List Str)} (H : LR R ys ws) : ys.length = ws.length := by
  induction H with
  | nil => rfl
  | cons _ _ _ ih => simp [ih]
theorem LR.append {R : Addr → Obj → Prop} {ys zs : List Value} {ws us : List (List Str)} (H : LR R ys ws) (G : LR R zs us) : LR R (ys ++ zs) (ws ++ us) := by
  induction H with
  | nil => exact G
  | cons h s _ ih => exact .cons h s ih
theorem LR.snoc {R : Addr → Obj → Prop} {ys : List Value} {ws : List (List Str)} (H : LR R ys ws) {a : Addr} {vs : List Value} {n : Nat} {w : List Str} (h : R a (listOf vs.toArray n)) (s : StrsAre vs w) : LR R (ys ++ [.ref a]) (ws ++ [w]) :=
  H.append (.cons h s .nil)
theorem LR.take {R : Addr → Obj → Prop} {ys : List Value} {ws : List (List Str)} (H : LR R ys ws) : ∀ k, LR R (ys.take k) (ws.take k) := by
  induction H with
  | nil => intro k; simp; exact .nil
  | cons h s _ ih => intro k; cases k with
    | zero => exact .nil
    | succ k => exact .cons h s (ih k)
theorem LR.at {R : Addr → Obj → Prop} {ys : List Value} {ws : List (List Str)} (H : LR R ys ws) : ∀ {i : Nat} {w : List Str}, ws[i]? = some w → ∃ a vs n, ys[i]? = some (.ref a) ∧ R a (listOf vs.toArray n) ∧ StrsAre vs w := by
  induction H with
  | nil => intro i w e; simp at e
  | cons h s _ ih => intro i w e; cases i with
    | zero => simp at e; subst e; exact ⟨_, _, _, rfl, h, s⟩
    | succ i => simpa using ih (by simpa using e)
theorem LR.reads {h : Heap} {ys : List Value} {ws : List (List Str)} (H : LR (fun a o => h.get? a = some o) ys ws) : ∃ as, ReadsAll h ys (dataL ws) as := by
  induction H with
  | nil => exact ⟨_, .nil⟩
  | cons e s _ ih =>
    obtain ⟨as, q⟩ := ih
    exact ⟨_, ReadsAll.cons (reads_strs ⟨_, e, rfl, _, rfl⟩ s) q⟩
theorem reads_lists {h : Heap} {a : Addr} {ys : List Value} {ws : List (List Str)} (e : h.IsList a ys.toArray) (H : LR (fun a o => h.get? a = some o) ys ws) : ∃ as, Reads h (.ref a) (.list (dataL ws)) as := by
  obtain ⟨o, ho, hc, n, hd⟩ := e
  obtain ⟨as, q⟩ := H.reads
  exact ⟨_, .list ho hc hd (by simpa using q)⟩
theorem regroup {B h : Heap} {L : Addr} {m : Str → Option Value} {cells nws : List (Addr × Obj)} (F : Fr B L h m) (N : News B L h (cells ++ nws)) (hx : ∀ q ∈ nws, q.1 ∉ cells.map (·.1)) :
    ∃ nws', News B L h (cells ++ nws') ∧ (∀ q ∈ nws, q ∈ nws') ∧ (∀ q ∈ nws', q.1 ∉ cells.map (·.1)) ∧ ∀ a o, h.get? a = some o → B.get? a = none → a ≠ L → a ∉ cells.map (·.1) → (a, o) ∈ nws' := by
  obtain ⟨n0, hN, hall⟩ := all_news B h L F.keep
  have full : ∀ a o, h.get? a = some o → B.get? a = none → a ≠ L → a ∉ cells.map (·.1) → (a, o) ∈ n0.filter fun q => decide (q.1 ∉ cells.map (·.1)) := fun a o e e1 e2 e3 => by
    refine List.mem_filter.mpr ⟨?_, decide_eq_true e3⟩
    rcases hall a o e with q | q | q
    · exact absurd q e2
    · rw [e1] at q; cases q
    · exact q
  refine ⟨n0.filter fun q => decide (q.1 ∉ cells.map (·.1)), fun q hq => ?_, fun q hq => ?_, fun q hq => of_decide_eq_true (List.mem_filter.mp hq).2, full⟩
  · rcases List.mem_append.mp hq with z | z
    · exact N q (List.mem_append_left _ z)
    · exact hN q (List.mem_filter.mp z).1
  · obtain ⟨e, e2, e3⟩ := N q (List.mem_append_right _ hq)
    exact full q.1 q.2 e e3 e2 (hx q hq)
section
variable {M : Model} {A : Around} {E : Value → Shared → Prop} {s : Shared} {B : Heap} {L : Addr} {m : Str → Option Value} {news new : List (Addr × Obj)} {env : Env} {x : Str} {c : Addr} {o : Obj} {v : Value} {v₀ : Option Value}
theorem store_my {Q : Unit → Shared → Prop} (F : Fr B L s.heap m) (N : News B L s.heap news) (hm : (c, o) ∈ news) (hd : o.data = .cell v₀) (hsub : ∀ q ∈ new, q ∈ news ∧ q.1 ≠ c)
    (h : ∀ h' o', Fr B L h' m → News B L h' ((c, o') :: new) → o'.data = .cell (some v) → Q () { s with heap := h' })
    (hk : env.scope.kind = .function) (hl : env.kindOf x = some .cell) (hc : env.cells.lookup x = some c) : wpAny M A (storeName env x v) Q E s := by
  have hmem := N _ hm
  refine wpAny_storeName_cell hk hl hc ⟨o, hmem.1, hd⟩ fun h' hv hs => ?_
  obtain ⟨o', ho', hd'⟩ := hv
  refine h h' o' ⟨F.ns.sameBut hs (Ne.symm hmem.2.1), fun b ob e => (hs.2 b (fun q => ?_)).trans (F.keep b ob e), F.above⟩ (fun q hq => ?_) hd'
  · rw [q, hmem.2.2] at e; cases e
  · rcases List.mem_cons.mp hq with rfl | hq
    · exact ⟨ho', hmem.2⟩
    · obtain ⟨a, b⟩ := hsub q hq
      obtain ⟨e1, e2⟩ := N q a
      exact ⟨(hs.2 _ b).trans e1, e2⟩
end
theorem sub_tail {nws : List (Addr × Obj)} {c : Addr} (h : ∀ q ∈ nws, q.1 ≠ c) : ∀ q ∈ nws, q ∈ nws ∧ q.1 ≠ c := fun q hq => ⟨hq, h q hq⟩
theorem sub_cons {p : Addr × Obj} {new rest : List (Addr × Obj)} {c : Addr} (hp : p.1 ≠ c) (h : ∀ q ∈ new, q ∈ rest ∧ q.1 ≠ c) : ∀ q ∈ p :: new, q ∈ p :: rest ∧ q.1 ≠ c := fun q hq => by
  rcases List.mem_cons.mp hq with rfl | hq
  · exact ⟨.head _, hp⟩
  · exact ⟨.tail _ (h q hq).1, (h q hq).2⟩
theorem sub_skip {p : Addr × Obj} {new rest : List (Addr × Obj)} {c : Addr} (h : ∀ q ∈ new, q ∈ rest ∧ q.1 ≠ c) : ∀ q ∈ new, q ∈ p :: rest ∧ q.1 ≠ c := fun q hq => ⟨.tail _ (h q hq).1, (h q hq).2⟩
theorem two_tail {prog : Program} {w : World} {A : Around} {E : Value → Shared → Prop} {s : Shared} {l : Addr} {k : Int} {j : Nat} {t t0 t1 t2 t3 : Tok} {value slice : PySem.Expr} {Q : Value → Shared → Prop}
    (hl : s.heap.IsList l [Value.bytes #[43, 45] t0, Value.bytes #[45, 95] t1, Value.bytes #[95, 126] t2, Value.bytes #[126, 33] t3].toArray) (e : k = (j : Int)) (hj : j < 4) (h : ∀ tt, Q (.bytes (altOf j) tt) s)
    (hs : subscripted slice false (.ref l) (.int k t) = operate [.ref l, .int k t] (getItem (.ref l) (.int k t))) :
    wpAny (model prog w) A (subscriptTail value slice (.ref l) (.int k t)) Q E s := by
  subst e
  have hv : ∃ tt, [Value.bytes #[43, 45] t0, Value.bytes #[45, 95] t1, Value.bytes #[95, 126] t2, Value.bytes #[126, 33] t3][j]? = some (.bytes (altOf j) tt) := by
    match j, hj with
    | 0, _ => exact ⟨_, rfl⟩
    | 1, _ => exact ⟨_, rfl⟩
    | 2, _ => exact ⟨_, rfl⟩
    | 3, _ => exact ⟨_, rfl⟩
  obtain ⟨tt, hv⟩ := hv
  exact tail_any hl.typeIs slot_list_getitem.lookup (wpAny_getItem_list hl (Int.natCast_nonneg j) (by omega) (by simpa using hv) (h tt)) hs
/-- the names of a number -/
def wayS (j : Nat) (n : Int) : List Str := (List.range (1 + n.fmod 2).toNat).map fun k => nameS j (dig n k)
/-- the places of the law's cells, and of its table -/
def cl6 (L : Addr) : List Addr := [L + 1 + 1 + 1 + 1 + 1, L + 1 + 1 + 1 + 1, L + 1 + 1 + 1, L + 1 + 1, L + 1, 211]
def Out (B : Heap) (L a : Addr) : Prop := B.get? a = none ∧ a ≠ L ∧ a ∉ cl6 L
section
variable {B h : Heap} {L : Addr} {m : Str → Option Value} {o0 o1 o2 o3 o4 o5 : Obj} {nws : List (Addr × Obj)}
theorem regroup_first {p q r s : Addr × Obj} (F : Fr B L h m) (N : News B L h (p :: q :: r :: s :: (L + 1 + 1 + 1 + 1 + 1, o5) :: (L + 1 + 1 + 1 + 1, o4) :: (L + 1 + 1 + 1, o3) :: (L + 1 + 1, o2) :: (L + 1, o1) :: (211, o0) :: [])) (hp : p.1 ∉ cl6 L) :
    ∃ nws', News B L h ((L + 1 + 1 + 1 + 1 + 1, o5) :: (L + 1 + 1 + 1 + 1, o4) :: (L + 1 + 1 + 1, o3) :: (L + 1 + 1, o2) :: (L + 1, o1) :: (211, o0) :: nws') ∧ p ∈ nws' ∧ ∀ q ∈ nws', q.1 ∉ cl6 L := by
  have N2 : News B L h ([(L + 1 + 1 + 1 + 1 + 1, o5), (L + 1 + 1 + 1 + 1, o4), (L + 1 + 1 + 1, o3), (L + 1 + 1, o2), (L + 1, o1), (211, o0)] ++ [p]) := fun x hx => by
    rcases List.mem_append.mp hx with z | z
    · exact N x (.tail _ (.tail _ (.tail _ (.tail _ z))))
    · rw [List.mem_singleton.mp z]; exact N p (.head _)
  obtain ⟨nws', a, b, c, _⟩ := regroup F N2 (fun x hx => by rw [List.mem_singleton.mp hx]; exact hp)
  exact ⟨nws', a, b p (.head _), c⟩
theorem regroup6 (F : Fr B L h m) (N : News B L h ((L + 1 + 1 + 1 + 1 + 1, o5) :: (L + 1 + 1 + 1 + 1, o4) :: (L + 1 + 1 + 1, o3) :: (L + 1 + 1, o2) :: (L + 1, o1) :: (211, o0) :: nws)) (hx : ∀ q ∈ nws, q.1 ∉ cl6 L) :
    ∃ nws', News B L h ((L + 1 + 1 + 1 + 1 + 1, o5) :: (L + 1 + 1 + 1 + 1, o4) :: (L + 1 + 1 + 1, o3) :: (L + 1 + 1, o2) :: (L + 1, o1) :: (211, o0) :: nws') ∧ (∀ q ∈ nws, q ∈ nws') ∧ (∀ q ∈ nws', q.1 ∉ cl6 L) ∧ ∀ a o, h.get? a = some o → Out B L a → (a, o) ∈ nws' := by
  obtain ⟨nws', a, b, c, d⟩ := regroup (cells := [(L + 1 + 1 + 1 + 1 + 1, o5), (L + 1 + 1 + 1 + 1, o4), (L + 1 + 1 + 1, o3), (L + 1 + 1, o2), (L + 1, o1), (211, o0)]) F N hx
  exact ⟨nws', a, b, c, fun a o e q => d a o e q.1 q.2.1 q.2.2⟩
theorem out_of {a : Addr} (F : Fr B L h m) (N : News B L h ((L + 1 + 1 + 1 + 1 + 1, o5) :: (L + 1 + 1 + 1 + 1, o4) :: (L + 1 + 1 + 1, o3) :: (L + 1 + 1, o2) :: (L + 1, o1) :: (211, o0) :: nws)) (e : h.get? a = none) : Out B L a := by
  refine ⟨?_, ?_, fun q => ?_⟩
  · cases z : B.get? a with
    | none => rfl
    | some o => rw [F.keep a o z] at e; cases e
  · rintro rfl
    obtain ⟨o, _, _, z, _⟩ := F.ns
    rw [z] at e; cases e
  · have g : ∀ o, (a, o) ∈ ((L + 1 + 1 + 1 + 1 + 1, o5) :: (L + 1 + 1 + 1 + 1, o4) :: (L + 1 + 1 + 1, o3) :: (L + 1 + 1, o2) :: (L + 1, o1) :: (211, o0) :: nws) → False := fun o q => by
      have z := (N _ q).1
      rw [e] at z; cases z
    simp only [cl6, List.mem_cons, List.not_mem_nil, or_false] at q
    rcases q with rfl | rfl | rfl | rfl | rfl | rfl
    · exact g o5 (.head _)
    · exact g o4 (.tail _ (.head _))
    · exact g o3 (.tail _ (.tail _ (.head _)))
    · exact g o2 (.tail _ (.tail _ (.tail _ (.head _))))
    · exact g o1 (.tail _ (.tail _ (.tail _ (.tail _ (.head _)))))
    · exact g o0 (.tail _ (.tail _ (.tail _ (.tail _ (.tail _ (.head _))))))
theorem news_tl {p : Addr × Obj} (N : News B L h (p :: nws)) : News B L h nws := fun q hq => N q (.tail _ hq)
end
/-- what a comprehension of lists holds -/
def JL (B : Heap) (L : Addr) (S : Addr → Prop) (h : Heap) (ys : List Value) (ws : List (List Str)) : Prop := LR (fun a o => ¬ S a ∧ Out B L a ∧ h.get? a = some o) ys ws
theorem JL.mono {B h h' : Heap} {L : Addr} {S : Addr → Prop} {ys : List Value} {ws : List (List Str)} (H : JL B L S h ys ws) (k : KeptBut S h h') : JL B L S h' ys ws := LR.mono (fun a o q => ⟨q.1, q.2.1, k a o q.1 q.2.2⟩) H
theorem JL.keep {B h h' : Heap} {L : Addr} {S : Addr → Prop} {ys : List Value} {ws : List (List Str)} (H : JL B L S h ys ws) (k : h.StaysIn h') : JL B L S h' ys ws := LR.mono (fun a o q => ⟨q.1, q.2.1, k a o q.2.2⟩) H
theorem JL.snoc {B h : Heap} {L : Addr} {S : Addr → Prop} {ys : List Value} {ws : List (List Str)} (H : JL B L S h ys ws) {a : Addr} {vs : List Value} {n : Nat} {w : List Str} (h1 : ¬ S a) (h2 : Out B L a) (h3 : h.get? a = some (listOf vs.toArray n)) (s : StrsAre vs w) :
    JL B L S h (ys ++ [.ref a]) (ws ++ [w]) := LR.snoc (show LR _ ys ws from H) ⟨h1, h2, h3⟩ s
theorem JL.out {B h : Heap} {L : Addr} {S : Addr → Prop} {ys : List Value} {ws : List (List Str)} {nws : List (Addr × Obj)} (H : JL B L S h ys ws) (hall : ∀ a o, h.get? a = some o → Out B L a → (a, o) ∈ nws) : LR (fun a o => (a, o) ∈ nws) ys ws :=
  LR.mono (fun a o q => hall a o q.2.2 q.2.1) H
def JM (B : Heap) (L : Addr) (f : Nat → List (List Str)) (S : Addr → Prop) (i : Nat) (ys : List Value) (h : Heap) : Prop := JL B L S h ys (f i)
theorem JM.mono {B : Heap} {L : Addr} {f : Nat → List (List Str)} : ∀ (S : Addr → Prop) (i : Nat) (ys : List Value) (h h' : Heap), JM B L f S i ys h → KeptBut S h h' → JM B L f S i ys h' := fun _ _ _ _ _ q k => JL.mono q k
theorem JM.zero {B g : Heap} {L : Addr} {f : Nat → List (List Str)} (e : f 0 = []) : ∀ (S : Addr → Prop) (h : Heap), g.StaysIn h → JM B L f S 0 [] h := fun S h _ => by unfold JM; rw [e]; exact LR.nil
theorem ints_at {vs : List Value} {ns : List Int} (H : IntsAre vs ns) : ∀ {i : Nat} {v : Value}, vs[i]? = some v → ∃ n t, v = .int n t ∧ ns[i]? = some n := by
  induction H with
  | nil => intro i v e; simp at e
  | cons k t _ ih => intro i v e; cases i with
    | zero => simp at e; exact ⟨k, t, e.symm, rfl⟩
    | succ i => simpa using ih (by simpa using e)
theorem take_snoc {α β : Type} {f : α → β} {ns : List α} {i : Nat} {n : α} (h : ns[i]? = some n) : (ns.take (i + 1)).map f = (ns.take i).map f ++ [f n] := by
  rw [List.take_add_one, h, List.map_append]; rfl
section
variable {M : Model} {A : Around} {E : Value → Shared → Prop} {s : Shared} {B : Heap} {L : Addr} {m : Str → Option Value} {nws : List (Addr × Obj)} {o0 o1 o2 o3 o4 o5 : Obj} {env : Env} {x : Str} {v : Value} {v₀ : Option Value}
theorem store_c2 {Q : Unit → Shared → Prop} (F : Fr B L s.heap m) (N : News B L s.heap ((L + 1 + 1 + 1 + 1 + 1, o5) :: (L + 1 + 1 + 1 + 1, o4) :: (L + 1 + 1 + 1, o3) :: (L + 1 + 1, o2) :: (L + 1, o1) :: (211, o0) :: nws)) (hx : ∀ q ∈ nws, q.1 ∉ cl6 L) (l0 : 211 < L) (hd : o2.data = .cell v₀)
    (h : ∀ h' o', Fr B L h' m → News B L h' ((L + 1 + 1 + 1 + 1 + 1, o5) :: (L + 1 + 1 + 1 + 1, o4) :: (L + 1 + 1 + 1, o3) :: (L + 1 + 1, o') :: (L + 1, o1) :: (211, o0) :: nws) → o'.data = .cell (some v) → Q () { s with heap := h' })
    (hk : env.scope.kind = .function) (hl : env.kindOf x = some .cell) (hc : env.cells.lookup x = some (L + 1 + 1)) : wpAny M A (storeName env x v) Q E s := by
  have hsub : ∀ q ∈ (L + 1 + 1 + 1 + 1 + 1, o5) :: (L + 1 + 1 + 1 + 1, o4) :: (L + 1 + 1 + 1, o3) :: (L + 1, o1) :: (211, o0) :: nws, q ∈ (L + 1 + 1 + 1 + 1 + 1, o5) :: (L + 1 + 1 + 1 + 1, o4) :: (L + 1 + 1 + 1, o3) :: (L + 1 + 1, o2) :: (L + 1, o1) :: (211, o0) :: nws ∧ q.1 ≠ L + 1 + 1 := sub_cons (fun q => by have q' : (_ : Nat) = (_ : Nat) := q; omega) (sub_cons (fun q => by have q' : (_ : Nat) = (_ : Nat) := q; omega) (sub_cons (fun q => by have q' : (_ : Nat) = (_ : Nat) := q; omega) (sub_skip (sub_cons (fun q => by have q' : (_ : Nat) = (_ : Nat) := q; omega) (sub_cons (fun q => by have q' : (_ : Nat) = (_ : Nat) := q; have l0' : (211 : Nat) < (_ : Nat) := l0; omega) (sub_tail fun q hq z => hx q hq (by rw [z]; simp [cl6])))))))
  exact store_my F N (.tail _ (.tail _ (.tail _ (.head _)))) hd hsub (fun h' o' F' N' d' => h h' o' F' (fun q hq => N' q (by
    simp only [List.mem_cons] at hq ⊢
    grind)) d') hk hl hc
theorem store_c3 {Q : Unit → Shared → Prop} (F : Fr B L s.heap m) (N : News B L s.heap ((L + 1 + 1 + 1 + 1 + 1, o5) :: (L + 1 + 1 + 1 + 1, o4) :: (L + 1 + 1 + 1, o3) :: (L + 1 + 1, o2) :: (L + 1, o1) :: (211, o0) :: nws)) (hx : ∀ q ∈ nws, q.1 ∉ cl6 L) (l0 : 211 < L) (hd : o3.data = .cell v₀)
    (h : ∀ h' o', Fr B L h' m → News B L h' ((L + 1 + 1 + 1 + 1 + 1, o5) :: (L + 1 + 1 + 1 + 1, o4) :: (L + 1 + 1 + 1, o') :: (L + 1 + 1, o2) :: (L + 1, o1) :: (211, o0) :: nws) → o'.data = .cell (some v) → Q () { s with heap := h' })
    (hk : env.scope.kind = .function) (hl : env.kindOf x = some .cell) (hc : env.cells.lookup x = some (L + 1 + 1 + 1)) : wpAny M A (storeName env x v) Q E s := by
  have hsub : ∀ q ∈ (L + 1 + 1 + 1 + 1 + 1, o5) :: (L + 1 + 1 + 1 + 1, o4) :: (L + 1 + 1, o2) :: (L + 1, o1) :: (211, o0) :: nws, q ∈ (L + 1 + 1 + 1 + 1 + 1, o5) :: (L + 1 + 1 + 1 + 1, o4) :: (L + 1 + 1 + 1, o3) :: (L + 1 + 1, o2) :: (L + 1, o1) :: (211, o0) :: nws ∧ q.1 ≠ L + 1 + 1 + 1 := sub_cons (fun q => by have q' : (_ : Nat) = (_ : Nat) := q; omega) (sub_cons (fun q => by have q' : (_ : Nat) = (_ : Nat) := q; omega) (sub_skip (sub_cons (fun q => by have q' : (_ : Nat) = (_ : Nat) := q; omega) (sub_cons (fun q => by have q' : (_ : Nat) = (_ : Nat) := q; omega) (sub_cons (fun q => by have q' : (_ : Nat) = (_ : Nat) := q; have l0' : (211 : Nat) < (_ : Nat) := l0; omega) (sub_tail fun q hq z => hx q hq (by rw [z]; simp [cl6])))))))
  exact store_my F N (.tail _ (.tail _ (.head _))) hd hsub (fun h' o' F' N' d' => h h' o' F' (fun q hq => N' q (by
    simp only [List.mem_cons] at hq ⊢
    grind)) d') hk hl hc
theorem store_c4 {Q : Unit → Shared → Prop} (F : Fr B L s.heap m) (N : News B L s.heap ((L + 1 + 1 + 1 + 1 + 1, o5) :: (L + 1 + 1 + 1 + 1, o4) :: (L + 1 + 1 + 1, o3) :: (L + 1 + 1, o2) :: (L + 1, o1) :: (211, o0) :: nws)) (hx : ∀ q ∈ nws, q.1 ∉ cl6 L) (l0 : 211 < L) (hd : o4.data = .cell v₀)
    (h : ∀ h' o', Fr B L h' m → News B L h' ((L + 1 + 1 + 1 + 1 + 1, o5) :: (L + 1 + 1 + 1 + 1, o') :: (L + 1 + 1 + 1, o3) :: (L + 1 + 1, o2) :: (L + 1, o1) :: (211, o0) :: nws) → o'.data = .cell (some v) → Q () { s with heap := h' })
    (hk : env.scope.kind = .function) (hl : env.kindOf x = some .cell) (hc : env.cells.lookup x = some (L + 1 + 1 + 1 + 1)) : wpAny M A (storeName env x v) Q E s := by
  have hsub : ∀ q ∈ (L + 1 + 1 + 1 + 1 + 1, o5) :: (L + 1 + 1 + 1, o3) :: (L + 1 + 1, o2) :: (L + 1, o1) :: (211, o0) :: nws, q ∈ (L + 1 + 1 + 1 + 1 + 1, o5) :: (L + 1 + 1 + 1 + 1, o4) :: (L + 1 + 1 + 1, o3) :: (L + 1 + 1, o2) :: (L + 1, o1) :: (211, o0) :: nws ∧ q.1 ≠ L + 1 + 1 + 1 + 1 := sub_cons (fun q => by have q' : (_ : Nat) = (_ : Nat) := q; omega) (sub_skip (sub_cons (fun q => by have q' : (_ : Nat) = (_ : Nat) := q; omega) (sub_cons (fun q => by have q' : (_ : Nat) = (_ : Nat) := q; omega) (sub_cons (fun q => by have q' : (_ : Nat) = (_ : Nat) := q; omega) (sub_cons (fun q => by have q' : (_ : Nat) = (_ : Nat) := q; have l0' : (211 : Nat) < (_ : Nat) := l0; omega) (sub_tail fun q hq z => hx q hq (by rw [z]; simp [cl6])))))))
  exact store_my F N (.tail _ (.head _)) hd hsub (fun h' o' F' N' d' => h h' o' F' (fun q hq => N' q (by
    simp only [List.mem_cons] at hq ⊢
    grind)) d') hk hl hc
theorem store_c5 {Q : Unit → Shared → Prop} (F : Fr B L s.heap m) (N : News B L s.heap ((L + 1 + 1 + 1 + 1 + 1, o5) :: (L + 1 + 1 + 1 + 1, o4) :: (L + 1 + 1 + 1, o3) :: (L + 1 + 1, o2) :: (L + 1, o1) :: (211, o0) :: nws)) (hx : ∀ q ∈ nws, q.1 ∉ cl6 L) (l0 : 211 < L) (hd : o5.data = .cell v₀)
    (h : ∀ h' o', Fr B L h' m → News B L h' ((L + 1 + 1 + 1 + 1 + 1, o') :: (L + 1 + 1 + 1 + 1, o4) :: (L + 1 + 1 + 1, o3) :: (L + 1 + 1, o2) :: (L + 1, o1) :: (211, o0) :: nws) → o'.data = .cell (some v) → Q () { s with heap := h' })
    (hk : env.scope.kind = .function) (hl : env.kindOf x = some .cell) (hc : env.cells.lookup x = some (L + 1 + 1 + 1 + 1 + 1)) : wpAny M A (storeName env x v) Q E s := by
  have hsub : ∀ q ∈ (L + 1 + 1 + 1 + 1, o4) :: (L + 1 + 1 + 1, o3) :: (L + 1 + 1, o2) :: (L + 1, o1) :: (211, o0) :: nws, q ∈ (L + 1 + 1 + 1 + 1 + 1, o5) :: (L + 1 + 1 + 1 + 1, o4) :: (L + 1 + 1 + 1, o3) :: (L + 1 + 1, o2) :: (L + 1, o1) :: (211, o0) :: nws ∧ q.1 ≠ L + 1 + 1 + 1 + 1 + 1 := sub_skip (sub_cons (fun q => by have q' : (_ : Nat) = (_ : Nat) := q; omega) (sub_cons (fun q => by have q' : (_ : Nat) = (_ : Nat) := q; omega) (sub_cons (fun q => by have q' : (_ : Nat) = (_ : Nat) := q; omega) (sub_cons (fun q => by have q' : (_ : Nat) = (_ : Nat) := q; omega) (sub_cons (fun q => by have q' : (_ : Nat) = (_ : Nat) := q; have l0' : (211 : Nat) < (_ : Nat) := l0; omega) (sub_tail fun q hq z => hx q hq (by rw [z]; simp [cl6])))))))
  exact store_my F N (.head _) hd hsub (fun h' o' F' N' d' => h h' o' F' (fun q hq => N' q (by
    simp only [List.mem_cons] at hq ⊢
    grind)) d') hk hl hc
end
theorem plain_names {j : Nat} (h : j < 4) : ∃ c1 c2, (twoS j).cps = #[c1, c2] ∧ nameS j 0 = Str.ofString "AAAA" ∧ nameS j 1 = Str.ofString "AAAA" ++ Txt.mul ⟨#[c1]⟩ 4 ∧ nameS j 2 = Str.ofString "AAAA" ++ Txt.mul ⟨#[c2]⟩ 4 ∧ nameS j 3 = Txt.mul ⟨#[c2]⟩ 4 := by
  match j, h with
  | 0, _ => exact ⟨43, 45, by decide +kernel, by decide +kernel, by decide +kernel, by decide +kernel, by decide +kernel⟩
  | 1, _ => exact ⟨45, 95, by decide +kernel, by decide +kernel, by decide +kernel, by decide +kernel, by decide +kernel⟩
  | 2, _ => exact ⟨95, 126, by decide +kernel, by decide +kernel, by decide +kernel, by decide +kernel, by decide +kernel⟩
  | 3, _ => exact ⟨126, 33, by decide +kernel, by decide +kernel, by decide +kernel, by decide +kernel, by decide +kernel⟩
theorem m6 {a b c d e f q : Addr × Obj} {nws : List (Addr × Obj)} (h : q ∈ nws) : q ∈ a :: b :: c :: d :: e :: f :: nws := .tail _ (.tail _ (.tail _ (.tail _ (.tail _ (.tail _ h)))))
theorem any_eqv_lists (w : List Str) (ws : List (List Str)) : (dataL ws).any (fun y => PyData.eqv y (.list (w.map PyData.str))) = decide (w ∈ ws) := by
  induction ws with
  | nil => simp [dataL]
  | cons u us ih =>
    show (PyData.eqv (.list (u.map PyData.str)) (.list (w.map PyData.str)) || (dataL us).any _) = _
    rw [eqv_strs, ih]
    by_cases h : u = w
    · simp [h]
    · have h' : ¬ w = u := fun e => h e.symm
      simp [h, h']
theorem notin_lists {prog : Program} {w : World} {A : Around} {E : Value → Shared → Prop} {s : Shared} {c x : Addr} {ys vs : List Value} {ws : List (List Str)} {u : List Str} {n : Nat} {Q : Value → Shared → Prop}
    (hc : s.heap.IsList c ys.toArray) (H : LR (fun a o => s.heap.get? a = some o) ys ws) (hx : s.heap.get? x = some (listOf vs.toArray n)) (hv : StrsAre vs u) (ok : ∀ w ∈ ws, OkS w) (ok' : OkS u) (hu : A.units + 65 < cLine)
    (h : Q (.bool (decide (u ∉ ws))) s) : wpAny (model prog w) A (compareOp .NotIn (.ref x) (.ref c)) Q E s := by
  obtain ⟨as, rc⟩ := reads_lists hc H
  refine notIn_list_reads rc (reads_strs ⟨_, hx, rfl, _, rfl⟩ hv) (canLay_of_shaped (shaped_lists ok)) (canLay_of_shaped (shaped_strs ok')) (room_in_shaped (shaped_strs ok') hu) ?_
  rw [any_eqv_lists]
  simpa using h
theorem upd_tab {L : Addr} {o0 o1 o2 o3 o4 o5 : Obj} {nws : List (Addr × Obj)} (hx : ∀ q ∈ nws, q.1 ∉ cl6 L) (l0 : 211 < L) :
    UpdF 211 o0 ((L + 1 + 1 + 1 + 1 + 1, o5) :: (L + 1 + 1 + 1 + 1, o4) :: (L + 1 + 1 + 1, o3) :: (L + 1 + 1, o2) :: (L + 1, o1) :: (211, o0) :: nws)
      (fun o' => (L + 1 + 1 + 1 + 1 + 1, o5) :: (L + 1 + 1 + 1 + 1, o4) :: (L + 1 + 1 + 1, o3) :: (L + 1 + 1, o2) :: (L + 1, o1) :: (211, o') :: nws) := by
  have l0' : (211 : Nat) < (_ : Nat) := l0
  refine .tail (fun q => ?_) (.tail (fun q => ?_) (.tail (fun q => ?_) (.tail (fun q => ?_) (.tail (fun q => ?_) (.head fun q hq z => hx q hq (by rw [z]; simp [cl6]))))))
  all_goals (have q' : (_ : Nat) = (_ : Nat) := q; omega)
theorem strs_nil {ys : List Value} (h : StrsAre ys []) : ys = [] := by cases h; rfl
theorem strs_one {ys : List Value} {x : Str} (h : StrsAre ys [x]) : ∃ t, ys = [.str x t] := by
  cases h with
  | cons _ t r => cases r; exact ⟨t, rfl⟩
theorem news_put {B g h : Heap} {L D : Addr} {o : Obj} {m : Str → Option Value} {news : List (Addr × Obj)} (F : Fr B L g m) (N : News B L h news) (e : h.get? D = some o) (e2 : g.get? D = none) : News B L h ((D, o) :: news) := fun q hq => by
  rcases List.mem_cons.mp hq with rfl | hq
  · refine ⟨e, ?_, ?_⟩
    · show D ≠ L
      rintro rfl
      obtain ⟨o, _, _, z, _⟩ := F.ns
      rw [z] at e2; cases e2
    · show B.get? D = none
      cases z : B.get? D with
      | none => rfl
      | some o => rw [F.keep D o z] at e2; cases e2
  · exact N q hq
section
variable {prog : Program} {w : World} {A : Around} {E : Value → Shared → Prop} {s : Shared} {Q : Value → Shared → Prop}
theorem ne_same {a b : Addr} {ys zs : List Value} {ws : List (List Str)} (ha : s.heap.IsList a ys.toArray) (hb : s.heap.IsList b zs.toArray) (H : LR (fun a o => s.heap.get? a = some o) ys ws) (G : LR (fun a o => s.heap.get? a = some o) zs ws)
    (ok : ∀ w ∈ ws, OkS w) (hu : A.units + 64 < cLine) (h : Q (.bool false) s) : wpAny (model prog w) A (compareOp .NotEq (.ref a) (.ref b)) Q E s := by
  obtain ⟨as, ra⟩ := reads_lists ha H
  obtain ⟨bs, rb⟩ := reads_lists hb G
  refine ne_dataH ra rb (shaped_lists ok) (shaped_lists ok) hu ?_
  rw [eqv_lists]
  simpa using h
theorem ne_strs {a b : Addr} {vs us : List Value} {xs ys : List Str} (ha : s.heap.IsList a vs.toArray) (hb : s.heap.IsList b us.toArray) (hx : StrsAre vs xs) (hy : StrsAre us ys) (ox : OkS xs) (oy : OkS ys) (hu : A.units + 64 < cLine)
    (h : Q (.bool (!decide (xs = ys))) s) : wpAny (model prog w) A (compareOp .NotEq (.ref a) (.ref b)) Q E s :=
  ne_dataH (reads_strs ha hx) (reads_strs hb hy) (shaped_strs ox) (shaped_strs oy) hu (by rw [eqv_strs]; exact h)
end
section
variable {prog : Program} {w : World} {A : Around} {E : Value → Shared → Prop} {s : Shared}
theorem same_strs {a b : Addr} {vs us : List Value} {xs : List Str} {Q : Value → Shared → Prop} (ha : s.heap.IsList a vs.toArray) (hb : s.heap.IsList b us.toArray) (hx : StrsAre vs xs) (hy : StrsAre us xs) (ox : OkS xs) (hu : A.units + 64 < cLine)
    (h : Q (.bool false) s) : wpAny (model prog w) A (compareOp .NotEq (.ref a) (.ref b)) Q E s := ne_strs ha hb hx hy ox ox hu (by simpa using h)
theorem meth_index {l : Addr} {its : Array Value} {n : Nat} {pl : Sem Bool} {Q : Value × List Value → Shared → Prop} (ho : s.heap.get? l = some (PySem.W.listOf its n)) (h : Q (.builtin "list.index", [.ref l]) s) : wpAny (model prog w) A (getMethod (.ref l) (Str.ofString "index") pl) Q E s :=
  getMethod_builtin ⟨_, ho, rfl⟩ PySem.F.plainAttrs_list PySem.F.slot_list_index PySem.F.type_list_index (fun a e => by cases e; exact ⟨_, ho, rfl⟩) h
theorem strs_get {vs : List Value} {xs : List Str} (H : StrsAre vs xs) {j : Nat} (hj : j < vs.length) : ∃ y t, xs[j]? = some y ∧ vs[j] = .str y t := by
  have hl := H.length
  obtain ⟨t, ht⟩ := H.at (j := j) (y := xs[j]) (by simp [hl ▸ hj])
  refine ⟨xs[j], t, by simp [hl ▸ hj], ?_⟩
  rw [List.getElem?_eq_getElem hj] at ht
  exact Option.some.inj ht
theorem idx_ne {k : Str} : ∀ {ns : List Str} {j : Nat}, j < ns.idxOf k → ∀ (h2 : j < ns.length), (ns[j] == k) = false
  | [], _, _, h2 => absurd h2 (Nat.not_lt_zero _)
  | n :: r, 0, h, _ => by
    show (n == k) = false
    cases e : n == k with
    | false => rfl
    | true => rw [List.idxOf_cons, e] at h; exact absurd h (Nat.not_lt_zero _)
  | n :: r, j + 1, h, h2 => by
    show (r[j]'(Nat.lt_of_succ_lt_succ h2) == k) = false
    cases e : n == k with
    | true => rw [List.idxOf_cons, e] at h; exact absurd h (Nat.not_lt_zero _)
    | false =>
      rw [List.idxOf_cons, e] at h
      exact idx_ne (Nat.lt_of_succ_lt_succ h) (Nat.lt_of_succ_lt_succ h2)
theorem index_strs {l : Addr} {vs : List Value} {xs : List Str} {k : Str} {t : Tok} {Q : Value → Shared → Prop} (hl : s.heap.IsList l vs.toArray) (H : StrsAre vs xs) (hk : k ∈ xs) (hlen : vs.length < 1000) (h : ∀ tk t', Q (.int (xs.idxOf k : Nat) t') { s with toks := tk }) :
    wpAny (model prog w) A (call (.builtin "list.index") [.ref l, .str k t]) Q E s := by
  obtain ⟨⟨cls, dd, data, sl⟩, ho, hc, n, hd⟩ := id hl
  simp only at hc hd
  subst hc hd
  have hlen2 := H.length
  have hj : xs.idxOf k < xs.length := List.idxOf_lt_length_iff.mpr hk
  refine call_meets PySem.F.slot_list_index ⟨_, ho, rfl⟩ PySem.F.entry_list_index (PySem.F.args_list_index_2 _ _)
    (list_indexAt l vs.toArray n dd sl (.str k t) (isStrOf k) (xs.idxOf k) (by simpa [hlen2] using hj) (by omega) ?_ ?_) ⟨ho, fun y hy => (eq_isStrOf k t H y (by simpa using hy)).at _ _, h _ _⟩
  · obtain ⟨y, u, e1, e2⟩ := strs_get H (j := xs.idxOf k) (by omega)
    show isStrOf k vs[xs.idxOf k] = true
    rw [e2]
    rw [List.getElem?_eq_getElem hj] at e1
    have : xs[xs.idxOf k] = k := List.getElem_idxOf hj
    show (y == k) = true
    rw [← Option.some.inj e1, this]; simp
  · intro j hjs hlt
    have hjv : j < vs.length := by simpa using hjs
    obtain ⟨y, u, e1, e2⟩ := strs_get H hjv
    show isStrOf k vs[j] = false
    rw [e2]
    rw [List.getElem?_eq_getElem (by omega)] at e1
    show (y == k) = false
    rw [← Option.some.inj e1]
    exact idx_ne hlt (by omega)
theorem join1 (x : Str) : Txt.join (Str.ofString "/") [x] = x := rfl
theorem join2 (x y : Str) : Txt.join (Str.ofString "/") [x, y] = x ++ (Str.ofString "/" ++ y) := by
  show Str.mk (x.cps ++ (Str.ofString "/").cps ++ y.cps) = Str.mk (x.cps ++ ((Str.ofString "/").cps ++ y.cps))
  rw [Array.append_assoc]
end
end
section
open PySem PySem.W PyProof.Rows PySem.Calls
theorem anew_Mg2 : True := by w_top off; trivial
section
variable {prog : Program} {w : World}
/-- the same as CompGo; the source's heap stays -/
structure CompGoA (prog : Program) (w : World) (A : Around) (env : Env) (scope : Scope) (cl : List (Str × Addr)) (x : Str) (ifs : List PySem.Expr) (elt : PySem.Expr) (h₁ : Heap) (Q : Value → Shared → Prop) (it : Value) (s₂ : Shared) : Prop where
  ex : ∃ (I : Addr) (fp wr : List Addr) (n : Nat) (P : Nat → Value → Prop) (St : Nat → Heap → Prop) (J : (Addr → Prop) → Nat → List Value → Heap → Prop), h₁.StaysIn (hideAll s₂.heap wr) ∧ it = .ref I ∧ Walks prog w A I fp wr n P St ∧ (∀ i h, St i h → ∀ b ∈ wr, ∃ o, h.get? b = some o) ∧ St 0 s₂.heap ∧
    (∀ b ∈ fp, b < s₂.heap.objs.size) ∧ n ≤ 1000 ∧ (∀ S i ys h h', J S i ys h → KeptBut S h h' → J S i ys h') ∧
    (∀ S h, (hideAll s₂.heap wr).StaysIn h → J S 0 [] h) ∧ CTurn prog w A env scope cl x ifs elt (hideAll s₂.heap wr) n P J ∧
    ∀ D ys h' tk k (S : Addr → Prop), (hideAll s₂.heap wr).StaysIn h' → (hideAll s₂.heap wr).get? D = none → h'.get? D = some (listOf (List.toArray ys) k) → S D → J S n ys h' → s₂.heap.objs.size ≤ D → Q (.ref D) { s₂ with heap := h', toks := tk }
/-- where the source of a comprehension stands that is bound to a name -/
structure AtIter (prog : Program) (w : World) (A : Around) (env : Env) (scope : Scope) (cl : List (Str × Addr)) (x : Str) (ifs : List PySem.Expr) (elt : PySem.Expr) (y : Str) (Q : Flow → Shared → Prop) (xv : Value) (s₁ : Shared) : Prop where
  ex : ∃ m, s₁.heap.Ns env.locals m ∧ wpAny (model prog w) A (pyIter xv) (fun it s₂ => CompGoA prog w A env scope cl x ifs elt s₁.heap (fun v s' => ∀ h'', Heap.SameBut env.locals s'.heap h'' → h''.Ns env.locals (fun z => if z = y then some v else m z) → Q .next { s' with heap := h'' }) it s₂) (fun _ _ => False) s₁
theorem assign_comp1 {A : Around} {s : Shared} {Q : Flow → Shared → Prop} {E : Value → Shared → Prop} {elt iter : PySem.Expr} {x y : Str} {px py : Pos} {ifs : List PySem.Expr} {scope : Scope} {cl : List (Str × Addr)} {pos spos : Pos} {env : Env}
    (hsw : swapsWith (.ListComp elt [⟨.Name x px, iter, ifs, 0⟩] scope pos) (some (.Name y py)) spos.line env = pure true)
    (hclos : closureFor scope env = pure cl) (hcell : ∀ y ∈ scope.names, y.2 ≠ .cell) (hkind : scope.kind = .function)
    (hnames : ∀ y ∈ scope.names, y.2 = .local → scope.names.lookup y.1 = some .local) (hx : scope.names.lookup x = some .local)
    (hy : env.kindOf y = some .local) (hp : (env.scope.kind == .class || (env.scope.kind == .module && env.locals != env.globals)) = false)
    (h : wpAny (model prog w) A (eval iter env) (fun xv s₁ => AtIter prog w A env scope cl x ifs elt y Q xv s₁) (fun _ _ => False) s)
    (hs : ∀ x, foldedSetIterable iter env x = pure x := by intro _; rfl) :
    wpAny (model prog w) A (exec (.Assign [.Name y py] (.ListComp elt [⟨.Name x px, iter, ifs, 0⟩] scope pos) spos) env) Q E s := by
  rw [exec_Assign_Name_used _ _ _ _ hsw]
  refine wpAny_bind (wpAny_standAt (wpAny_bind ?_))
  show wpAny _ A (do let _ ← comprehension (.ListComp elt [⟨.Name x px, iter, ifs, 0⟩] scope pos) scope env _ (newList []) false (eval iter env) (some (assign (.Name y py) env))) _ _ s
  refine wpAny_bind (wpAny_mono (wpAny_comprehension_free (g := ⟨.Name x px, iter, ifs, 0⟩) (gs := []) (use := some (assign (.Name y py) env)) (Q := fun _ s' => Q .next s') rfl hs hclos hkind hnames ?_) (fun _ s' hq => wpAny_pure (wpAny_pure hq)) fun _ _ e => e)
  refine wpAny_mono h (fun xv s₁ h₁ => ?_) fun _ _ q => q.elim
  obtain ⟨m, hNs, h₁⟩ := h₁
  refine wpAny_mono h₁ (fun it s₂ h₂ => ?_) fun _ _ q => q.elim
  obtain ⟨I, fp, wr, n, P, St, J, hkeep, rfl, W, hex, hst, hfp, hn, mono, h0, turn, done⟩ := h₂
  obtain ⟨H, gens, drawn, tk, os⟩ := s₂
  refine wpAny_newObj_type (wpAny_newFunctionEnv hcell (by intro y hy; simp at hy) (fun h₁ hns₁ hsb₁ => ?_) hkind)
  dsimp only at hns₁ hsb₁ hst hfp h0 turn done hkeep ⊢
  have sz : ∀ b o, H.get? b = some o → b < H.objs.size := fun b o e => Heap.lt_size e
  have e1 : (H.push { cls := .type "list", dict := none, data := .seq ([] : List Value).toArray }).objs.size = H.objs.size + 1 := Heap.size_push ..
  rw [e1] at hns₁ hsb₁ ⊢
  have old : ∀ b o, H.get? b = some o → h₁.get? b = some o := fun b o e => hsb₁.extBut b o (Nat.ne_of_lt (Nat.lt_succ_of_lt (sz b o e))) (Heap.get?_push_of_some _ (Heap.get?_push_of_some _ e))
  have hacc : h₁.PlainList H.objs.size #[] := ⟨_, hsb₁.extBut _ _ (Nat.ne_of_lt (Nat.lt_succ_self _)) (Heap.get?_push_of_some _ (Heap.get?_push_size _ rfl))⟩
  have fresh : ∀ a, H.objs.size ≤ a → (hideAll H wr).get? a = none := fun a ha => by
    cases e : (hideAll H wr).get? a with
    | none => rfl
    | some o' => exact absurd (sz a o' (of_hideAll _ e)) (Nat.not_lt.mpr ha)
  have hst₁ : St 0 h₁ := W.frame _ _ _ hst fun b _ o e => old b o e
  have st₁ : (hideAll H wr).StaysIn h₁ := fun b o e => old b o (of_hideAll _ e)
  have hDf : H.objs.size ∉ fp := fun q => Nat.lt_irrefl _ (hfp _ q)
  have hCf : H.objs.size + 1 ∉ fp := fun q => absurd (hfp _ q) (Nat.not_lt.mpr (Nat.le_succ _))
  have loop : ∀ s₃ : Shared, s₃ = ⟨h₁, gens, drawn, tk + ([] : List (Str × Value)).length, os⟩ →
      codeAny (model prog w) A (.compLoop (.ListComp elt [⟨.Name x px, iter, ifs, 0⟩] scope pos) 0 (.ref I) (.ref H.objs.size) (compEnvC scope cl (H.objs.size + 1) env))
        (compPost (model prog w) A E (some (assign (.Name y py) env)) (fun _ s' => Q .next s') (.ref H.objs.size) (H.objs.size + 1)) s₃ := by
    rintro s₃ rfl
    refine comp_loop (g := hideAll H wr) J mono W (lookup_relabel_local hx) hkind (Nat.ne_of_lt (Nat.lt_succ_self _)) hDf hCf (by rw [sizeLine_eq]; omega) (by rw [hideAll_size]; exact Nat.le_succ _) (fun b hb => hideAll_none _ hb) (fresh _ (Nat.le_refl _)) hst₁ hacc hns₁ st₁ hex
      (h0 _ _ st₁) turn fun h' tk' m' ys hns hpl hJ hst' => ?_
    have hNs' : h'.Ns env.locals m := by
      obtain ⟨o, es, ep, ho, r⟩ := hNs
      exact ⟨o, es, ep, hst' _ _ (hkeep _ _ ho), r⟩
    have hLC : env.locals ≠ H.objs.size + 1 := fun q => by
      obtain ⟨o, es, ep, ho, r⟩ := hNs
      have z := hkeep _ _ ho
      rw [q, fresh _ (Nat.le_succ _)] at z; cases z
    have hLD : H.objs.size ≠ env.locals := fun q => by
      obtain ⟨o, es, ep, ho, r⟩ := hNs
      have z := hkeep _ _ ho
      rw [← q, fresh _ (Nat.le_refl _)] at z; cases z
    show wpAny _ A (assign (.Name y py) env (.ref H.objs.size)) _ _ _
    refine wpAny_assign_Name (wpAny_storeName_local hy hNs' (fun h₂ hn₂ hs₂ => ?_) hp)
    refine ⟨m', hns.sameBut hs₂ (Ne.symm hLC), fun h3 hs3 => ?_⟩
    obtain ⟨k, e⟩ := hpl
    have n3 : h3.Ns env.locals (fun z => if z = y then some (.ref H.objs.size) else m z) := hn₂.sameBut hs3 hLC
    obtain ⟨oL, esL, epL, hoL, _⟩ := hNs'
    obtain ⟨o3, es3, ep3, ho3, _⟩ := id n3
    have hX : (h3.update env.locals fun _ => oL).get? env.locals = some oL := Heap.get?_update_self _ ho3 (Heap.get?_some_iff.mp hoL).2
    have sX : Heap.SameBut env.locals h3 (h3.update env.locals fun _ => oL) := Heap.SameBut.update ..
    have up : ∀ b o, b ≠ H.objs.size + 1 → h'.get? b = some o → (h3.update env.locals fun _ => oL).get? b = some o := fun b o hb e => by
      by_cases q : b = env.locals
      · subst q; rw [hX, ← hoL]; exact e
      · exact (sX.2 b q).trans ((hs3.2 b hb).trans ((hs₂.2 b q).trans e))
    refine done _ ys _ _ k _ (fun b o e => up b o (fun z => by rw [z, fresh _ (Nat.le_succ _)] at e; cases e) (hst' b o e)) (fresh _ (Nat.le_refl _)) (up _ _ (Nat.ne_of_lt (Nat.lt_succ_self _)) e) (.inr (.inl rfl))
      (mono _ _ _ _ _ hJ fun b o q e => up b o (fun z => q (.inl z)) e) (Nat.le_refl _) h3 ⟨sX.1.symm, fun b hb => (sX.2 b hb).symm⟩ n3
  exact codeAny_compStart_list (loop _ rfl) (W.self 0 _ _ _ hst₁ (loop _ rfl))
end
section
variable {prog : Program} {w : World} {A : Around} {s : Shared} {Q : Value → Shared → Prop} {elt : PySem.Expr} {x : Str} {ifs : List PySem.Expr} {scope : Scope} {cl : List (Str × Addr)} {env : Env}
theorem go_listA {l : Addr} {vs : List Value} (J : (Addr → Prop) → Nat → List Value → Heap → Prop) (hh : A.handled = none) (hl : s.heap.IsList l vs.toArray) (hn : vs.length ≤ 1000)
    (mono : ∀ S i ys h h', J S i ys h → KeptBut S h h' → J S i ys h')
    (h0 : ∀ S h, s.heap.StaysIn h → J S 0 [] h)
    (turn : ∀ g, s.heap.StaysIn g → g.StaysIn s.heap → CTurn prog w A env scope cl x ifs elt g vs.length (fun i v => vs[i]? = some v) J)
    (done : ∀ D ys h' tk k (S : Addr → Prop), s.heap.StaysIn h' → s.heap.get? D = none → h'.get? D = some (listOf (List.toArray ys) k) → S D → J S vs.length ys h' → Q (.ref D) { s with heap := h', toks := tk }) :
    wpAny (model prog w) A (pyIter (.ref l)) (fun it s₂ => CompGoA prog w A env scope cl x ifs elt s.heap Q it s₂) (fun _ _ => False) s := by
  refine wpAny_pyIter_list hl ?_
  obtain ⟨a, b⟩ := hide_push (h := s.heap) (o := { cls := .type "list_iterator", data := .fields #[.ref l, .int 0 0] })
  have hlt : l < s.heap.objs.size := by obtain ⟨o, e, _⟩ := hl; exact Heap.lt_size e
  have hnum : vs.toArray.size = vs.length := by simp
  refine ⟨s.heap.objs.size, [s.heap.objs.size, l], [s.heap.objs.size], vs.length, fun i v => vs[i]? = some v, fun i h => h.IsListIter s.heap.objs.size l i ∧ h.IsList l vs.toArray, J, a, rfl, ?W, ?_, ?_, ?_, hn, mono, fun S h e => h0 S h (stays_trans a e), turn _ a b, fun D ys h' tk k S c d e f g _ => done D ys h' tk k S (stays_trans a c) ?_ e f g⟩
  case W =>
    have W := Walks.list (prog := prog) (w := w) hh s.heap.objs.size l (Nat.ne_of_lt hlt) vs.toArray
    rw [hnum] at W
    simpa using W
  · intro i h st b hb
    rw [List.mem_singleton.mp hb]
    obtain ⟨o, e, _⟩ := st.1
    exact ⟨o, e⟩
  · refine ⟨⟨_, Heap.get?_push_size _ rfl, rfl, rfl⟩, hl.at fun o e => Heap.get?_push_of_some _ e⟩
  · intro b hb
    simp only [List.mem_cons, List.not_mem_nil, or_false] at hb
    show b < (Heap.push _ _).objs.size
    rw [Heap.size_push]
    rcases hb with q | q
    · rw [q]; exact Nat.lt_succ_self _
    · rw [q]; exact Nat.lt_succ_of_lt hlt
  · cases q : s.heap.get? D with
    | none => rfl
    | some o => rw [a D o q] at d; cases d
end
theorem news_set {B h h' : Heap} {L : Addr} {news : List (Addr × Obj)} (N : News B L h news) (hs : Heap.SameBut L h h') : News B L h' news := fun q hq => by
  obtain ⟨a, b, c⟩ := N q hq
  exact ⟨(hs.2 _ b).trans a, b, c⟩
end
section
open PySem PySem.W PyProof.Rows PySem.Calls
theorem anew_Mg3 : True := by w_top off; trivial
/-- a comprehension of two clauses, the second one with a test -/
abbrev E2 (elt iter1 iter2 c : PySem.Expr) (x y : Str) (px py : Pos) (scope : Scope) (pos : Pos) : PySem.Expr := .ListComp elt [⟨.Name x px, iter1, [], 0⟩, ⟨.Name y py, iter2, [c], 0⟩] scope pos
theorem turn1_eq (elt iter1 iter2 c : PySem.Expr) (x y : Str) (px py : Pos) (scope : Scope) (pos : Pos) (it acc : Value) (env : Env) :
    compTurn (E2 elt iter1 iter2 c x y px py scope pos) 1 it acc env = (do
      standAt iter2.pos
      match ← pyNext it with
      | none => pure (.done .next)
      | some v =>
        letOwnedTupleGo (.Name y py) it v
        assign (.Name y py) env v
        let mut ok := true
        for c in [c] do
          if ok then ok ← isTrue c env (eval c env)
        if ok then
          (do let _ ← call (.builtin "list.append") [acc, ← eval elt env])
        again (.compLoop (E2 elt iter1 iter2 c x y px py scope pos) 1 it acc env)) := by rfl
theorem turn0_eq (elt iter1 iter2 c : PySem.Expr) (x y : Str) (px py : Pos) (scope : Scope) (pos : Pos) (it acc : Value) (env : Env) :
    compTurn (E2 elt iter1 iter2 c x y px py scope pos) 0 it acc env = (do
      standAt iter1.pos
      match ← pyNext it with
      | none => pure (.done .next)
      | some v =>
        letOwnedTupleGo (.Name x px) it v
        assign (.Name x px) env v
        let mut ok := true
        for c in ([] : List PySem.Expr) do
          if ok then ok ← isTrue c env (eval c env)
        if ok then
          let z ← eval iter2 env
          standAt iter2.pos
          let z ← foldedSetIterable iter2 env z
          let _ ← runOwn (.compStart (E2 elt iter1 iter2 c x y px py scope pos) 1 (← holding [z] (pyIter z)) acc env) env
        again (.compLoop (E2 elt iter1 iter2 c x y px py scope pos) 0 it acc env)) := by rfl
/-- what a step of the block leaves, the names as they were -/
def CP (g : Heap) (C : Addr) (m : Str → Option Value) (nws : List (Addr × Obj)) (s s' : Shared) : Prop := ∃ (h' : Heap) (tk : Nat), s' = { s with heap := h', toks := tk } ∧ Fr g C h' m ∧ News g C h' nws
theorem CP.mk' {g h' : Heap} {C : Addr} {m : Str → Option Value} {nws all : List (Addr × Obj)} {s : Shared} {tk : Nat} (F : Fr g C h' m) (N : News g C h' all) (hs : ∀ q ∈ nws, q ∈ all) : CP g C m nws s { s with heap := h', toks := tk } :=
  ⟨h', tk, rfl, F, fun q hq => N q (hs q hq)⟩
section
variable {prog : Program} {w : World} {A : Around} {R : Result → Shared → Prop} {s : Shared}
theorem start1 {elt iter1 iter2 c : PySem.Expr} {x y : Str} {px py : Pos} {scope : Scope} {pos : Pos} {it acc : Value} {env : Env}
    (h0 : codeAny (model prog w) A (.compLoop (E2 elt iter1 iter2 c x y px py scope pos) 1 it acc env) R s)
    (h : wpAny (model prog w) A (pyIter it) (fun it' s' => codeAny (model prog w) A (.compLoop (E2 elt iter1 iter2 c x y px py scope pos) 1 it' acc env) R s')
      (notedBy (model prog w) A env fun ee s' => R (.error ee) s') s) :
    codeAny (model prog w) A (.compStart (E2 elt iter1 iter2 c x y px py scope pos) 1 it acc env) R s := by
  refine codeAny_of_tree ?_
  show wpAny _ _ ((compStart (E2 elt iter1 iter2 c x y px py scope pos) 1 it acc env).onRaise (fun x => do noteFrame x env; standAt theWindowsPlace)) _ _ s
  refine wpAny_notedAt ?_
  unfold compStart
  show wpAny _ _ (ask >>= _) _ _ s
  refine wpAny_bind (wpAny_askSetting (wpAny_ite ?_))
  split
  · first
      | exact wpAny_bind (wpAny_pure (wpAny_pure (And.intro rfl h0)))
      | exact wpAny_pure (And.intro rfl h0)
  · first
      | exact wpAny_bind (wpAny_rule (wpAny_bind (wpAny_standAt (wpAny_bind (wpAny_mono h (fun it' s' h' => wpAny_pure (And.intro rfl h')) fun _ _ x => x)))))
      | (refine wpAny_bind (wpAny_rule ?_); show wpAny _ _ (standAt iter2.pos >>= _) _ _ s; exact wpAny_bind (wpAny_standAt (wpAny_bind (wpAny_mono h (fun it' s' h' => wpAny_pure (And.intro rfl h')) fun _ _ x => x))))
/-- the test and the element, one turn of the second clause -/
def Test2 (prog : Program) (w : World) (A : Around) (g : Heap) (C : Addr) (cenv : Env) (c elt : PySem.Expr) (x y : Str) (v1 : Value) (vs : List Value) (tst : Nat → Bool) : Prop :=
  ∀ j v2 m₄ nws s₅, j < vs.length → vs[j]? = some v2 → Fr g C s₅.heap m₄ → m₄ x = some v1 → m₄ y = some v2 → News g C s₅.heap nws →
    wpAny (model prog w) A (forIn [c] true fun c r => if r = true then do let ok ← isTrue c cenv (eval c cenv); pure (ForInStep.yield ok) else pure (ForInStep.yield r))
      (fun ok s₆ => ok = tst j ∧ CP g C m₄ nws s₅ s₆ ∧ (ok = true → wpAny (model prog w) A (eval elt cenv) (fun _ s₇ => CP g C m₄ nws s₆ s₇) (fun _ _ => False) s₆)) (fun _ _ => False) s₅
structure CI2 (s : Shared) (I2 D C l : Addr) (vs : List Value) (x : Str) (v1 : Value) (tst : Nat → Bool) (b0 : Nat) (k : Nat) (s' : Shared) : Prop where
  ex : ∃ (h' : Heap) (tk : Nat) (m' : Str → Option Value) (ys : List Value) (i : Nat), s' = { s with heap := h', toks := tk } ∧ (h'.IsListIter I2 l i ∧ h'.IsList l vs.toArray) ∧ h'.PlainList D ys.toArray ∧ h'.Ns C m' ∧ m' x = some v1 ∧ ys.length = b0 + ((List.range i).filter tst).length ∧ i ≤ vs.length ∧ k = vs.length + 1 - i ∧
    (∀ b o, b ≠ C → b ≠ D → b ≠ I2 → s.heap.get? b = some o → h'.get? b = some o)
theorem inner2 {elt iter1 iter2 c : PySem.Expr} {x y : Str} {px py : Pos} {scope : Scope} {pos : Pos} {cenv : Env} {g : Heap} {I2 D C l : Addr} {vs ys0 : List Value} {v1 : Value} {tst : Nat → Bool} {m : Str → Option Value}
    (hh : A.handled = none) (hL : cenv.locals = C) (hxy : x ≠ y) (hy : cenv.kindOf y = some .local) (hp : (cenv.scope.kind == .class || (cenv.scope.kind == .module && cenv.locals != cenv.globals)) = false)
    (hDC : D ≠ C) (hIC : I2 ≠ C) (hID : I2 ≠ D) (hlI : l ≠ I2) (hlC : l ≠ C) (hlD : l ≠ D) (hab : g.objs.size ≤ C) (hI0 : g.get? I2 = none) (hC0 : g.get? C = none) (hD0 : g.get? D = none) (hsz : ys0.length + vs.length ≤ 100000)
    (hns : s.heap.Ns C m) (hmx : m x = some v1) (hst : s.heap.IsListIter I2 l 0 ∧ s.heap.IsList l vs.toArray) (hacc : s.heap.PlainList D ys0.toArray) (h0 : g.StaysIn s.heap)
    (test : Test2 prog w A g C cenv c elt x y v1 vs tst)
    (hR : ∀ h' tk m' ys, h'.Ns C m' → m' x = some v1 → h'.PlainList D (List.toArray ys) → ys.length = ys0.length + ((List.range vs.length).filter tst).length → (∀ b o, b ≠ C → b ≠ D → b ≠ I2 → s.heap.get? b = some o → h'.get? b = some o) → R (.ok .next) { s with heap := h', toks := tk }) :
    codeAny (model prog w) A (.compLoop (E2 elt iter1 iter2 c x y px py scope pos) 1 (.ref I2) (.ref D) cenv) R s := by
  have W := Walks.list (prog := prog) (w := w) hh I2 l hlI vs.toArray
  have hnum : vs.toArray.size = vs.length := by simp
  rw [hnum] at W
  refine codeAny_loop rfl (CI2 s I2 D C l vs x v1 tst ys0.length) (fun k s' hI => ?_) (vs.length + 1) ⟨s.heap, s.toks, m, ys0, 0, rfl, hst, hacc, hns, hmx, by simp, Nat.zero_le _, rfl, fun _ _ _ _ _ e => e⟩
  show wpAny _ A ((compTurn (E2 elt iter1 iter2 c x y px py scope pos) 1 (.ref I2) (.ref D) cenv).onRaise (fun x => do noteFrame x cenv; theTreesLotGoes x)) _ _ s'
  refine wpAny_noted ?_
  rw [turn1_eq]
  obtain ⟨H, tk, m', ys, i, rfl, hst', hacc', hn', hx', hl', hi, rfl, hkp⟩ := hI
  have gH : g.StaysIn H := fun b o e => hkp b o (fun z => by rw [z, hC0] at e; cases e) (fun z => by rw [z, hD0] at e; cases e) (fun z => by rw [z, hI0] at e; cases e) (h0 b o e)
  by_cases hlt : i < vs.length
  · refine wpAny_bind (wpAny_standAt (wpAny_bind (W.item i _ _ _ hlt hst' fun v h₁ tk₁ hPv hst₁ hk₁ => ?_)))
    have hk₁' : ∀ b o, b ≠ I2 → H.get? b = some o → h₁.get? b = some o := fun b o hb e => hk₁ b o (by simpa using hb) e
    refine wpAny_bind (wpAny_of_eq (show letOwnedTupleGo (.Name y py) (.ref I2) v = pure () from rfl) ?_)
    refine wpAny_bind (PyProof.Rows.assign_Name (wpAny_storeName_local hy (show Heap.Ns h₁ cenv.locals m' from hL ▸ hn'.at' fun o e => hk₁' _ o (Ne.symm hIC) e) (fun h₂ hn₂ hs₂ => ?_) hp))
    rw [hL] at hn₂ hs₂
    have up₂ : ∀ b o, b ≠ C → b ≠ I2 → H.get? b = some o → h₂.get? b = some o := fun b o hbC hbI e => hs₂.extBut b o hbC (hk₁' b o hbI e)
    have st₂ : g.StaysIn h₂ := fun b o e => up₂ b o (fun z => by rw [z, hC0] at e; cases e) (fun z => by rw [z, hI0] at e; cases e) (gH b o e)
    have hst₂ : h₂.IsListIter I2 l (i + 1) ∧ h₂.IsList l vs.toArray := W.frame _ _ _ hst₁ fun b hb o e => hs₂.extBut b o (fun z => by
      rw [z] at hb; simp only [List.mem_cons, List.not_mem_nil, or_false] at hb
      rcases hb with q | q
      · exact hIC q.symm
      · exact hlC q.symm) e
    obtain ⟨nws, hN, hall⟩ := all_news g h₂ C st₂
    have kp : ∀ {h' : Heap} {m' : Str → Option Value}, Fr g C h' m' → News g C h' nws → ∀ b o, b ≠ C → h₂.get? b = some o → h'.get? b = some o := fun F' N' b o hb e => by
      rcases hall b o e with q | q | q
      · exact absurd q hb
      · exact F'.keep b o q
      · exact (N' _ q).1
    have hv : vs[i]? = some v := by simpa using hPv
    refine wpAny_bind (wpAny_mono (test i v _ nws { s with heap := h₂, toks := tk₁ + 1 } hlt hv ⟨hn₂, st₂, hab⟩ (by rw [if_neg hxy]; exact hx') (by simp) hN) (fun ok s₃ h₃ => ?_) fun _ _ q => q.elim)
    obtain ⟨hok, ⟨h₃, tk₃, rfl, F₃, N₃⟩, h₃'⟩ := h₃
    have hk₃ := kp F₃ N₃
    have fin : ∀ b o, b ≠ C → b ≠ D → b ≠ I2 → s.heap.get? b = some o → h₂.get? b = some o := fun b o h1 h2 h3 e => up₂ b o h1 h3 (hkp b o h1 h2 h3 e)
    have fst : ∀ {h' : Heap}, (∀ b o, b ≠ C → h₂.get? b = some o → h'.get? b = some o) → h'.IsListIter I2 l (i + 1) ∧ h'.IsList l vs.toArray := fun hk => W.frame _ _ _ hst₂ fun b hb o e => hk b o (fun z => by
      rw [z] at hb; simp only [List.mem_cons, List.not_mem_nil, or_false] at hb
      rcases hb with q | q
      · exact hIC q.symm
      · exact hlC q.symm) e
    have cnt : ((List.range (i + 1)).filter tst).length = ((List.range i).filter tst).length + (if tst i = true then 1 else 0) := by
      rw [List.range_succ, List.filter_append, List.length_append]
      cases hti : tst i <;> simp [List.filter_cons, hti]
    cases ok with
    | false =>
      refine wpAny_pure ⟨rfl, vs.length + 1 - (i + 1), by omega, ⟨h₃, tk₃, _, ys, i + 1, rfl, fst hk₃, hacc'.at fun o e => hk₃ _ o hDC (up₂ D o hDC (Ne.symm hID) e), F₃.ns, by rw [if_neg hxy]; exact hx', ?_, hlt, rfl, fun b o h1 h2 h3 e => hk₃ b o h1 (fin b o h1 h2 h3 e)⟩⟩
      rw [cnt, ← hok]; simpa using hl'
    | true =>
      refine wpAny_bind (wpAny_bind (wpAny_mono (h₃' rfl) (fun z s₄ h₄ => ?_) fun _ _ q => q.elim))
      obtain ⟨h₄, tk₄, rfl, F₄, N₄⟩ := h₄
      have hk₄ := kp F₄ N₄
      have hacc₄ : h₄.PlainList D ys.toArray := hacc'.at fun o e => hk₄ _ o hDC (up₂ D o hDC (Ne.symm hID) e)
      have hfl : ((List.range i).filter tst).length ≤ i := Nat.le_trans (List.length_filter_le _ _) (by simp)
      refine wpAny_bind (wpAny_list_append_plain (hsz := by rw [List.size_toArray, sizeLine_eq]; omega) hacc₄ fun h₅ hl₅ hs₅ => ?_)
      have e5 : ys.toArray.push z = (ys ++ [z]).toArray := by simp
      rw [e5] at hl₅
      have k5 : ∀ b o, b ≠ C → b ≠ D → h₂.get? b = some o → h₅.get? b = some o := fun b o h1 h2 e => hs₅.extBut b o h2 (hk₄ b o h1 e)
      refine wpAny_pure (wpAny_pure ⟨rfl, vs.length + 1 - (i + 1), by omega, ⟨h₅, tk₄, _, ys ++ [z], i + 1, rfl, ?_, hl₅, F₄.ns.sameBut hs₅ (Ne.symm hDC), by rw [if_neg hxy]; exact hx', ?_, hlt, rfl, fun b o h1 h2 h3 e => k5 b o h1 h2 (fin b o h1 h2 h3 e)⟩⟩)
      · exact W.frame _ _ _ hst₂ fun b hb o e => by
          simp only [List.mem_cons, List.not_mem_nil, or_false] at hb
          rcases hb with q | q
          · exact k5 b o (q ▸ hIC) (q ▸ hID) e
          · exact k5 b o (q ▸ hlC) (q ▸ hlD) e
      · rw [cnt, ← hok, List.length_append]; simp; omega
  · have hin : i = vs.length := by omega
    subst hin
    refine wpAny_bind (wpAny_standAt (wpAny_bind (W.done _ _ _ hst' fun h₁ tk₁ hk₁ => ?_)))
    have hk₁' : ∀ b o, b ≠ I2 → H.get? b = some o → h₁.get? b = some o := fun b o hb e => hk₁ b o (by simpa using hb) e
    exact wpAny_pure (hR h₁ tk₁ m' ys (hn'.at' fun o e => hk₁' _ o (Ne.symm hIC) e) hx' (hacc'.at fun o e => hk₁' _ o (Ne.symm hID) e) hl' fun b o h1 h2 h3 e => hk₁' b o h3 (hkp b o h1 h2 h3 e))
def Src2End (prog : Program) (w : World) (A : Around) (g : Heap) (C : Addr) (cenv : Env) (c elt : PySem.Expr) (x y : Str) (v1 : Value) (m₃ : Str → Option Value) (nws : List (Addr × Obj)) (k : Nat) (s₃ : Shared) (xv : Value) (s₄ : Shared) : Prop :=
  CP g C m₃ nws s₃ s₄ ∧ ∃ (l : Addr) (vs : List Value) (tst : Nat → Bool), xv = .ref l ∧ l ≠ C ∧ s₄.heap.IsList l vs.toArray ∧ (g.get? l = none → s₃.heap.get? l = none) ∧ vs.length ≤ 1000 ∧ ((List.range vs.length).filter tst).length = k ∧ Test2 prog w A g C cenv c elt x y v1 vs tst
/-- the second clause's source, one turn of the first clause -/
def Src2 (prog : Program) (w : World) (A : Around) (g : Heap) (C : Addr) (cenv : Env) (iter2 c elt : PySem.Expr) (x y : Str) (n : Nat) (P : Nat → Value → Prop) (cnt : Nat → Nat) : Prop :=
  ∀ i v1 m₃ nws s₃, i < n → P i v1 → Fr g C s₃.heap m₃ → m₃ x = some v1 → News g C s₃.heap nws → (∀ a o, s₃.heap.get? a = some o → a = C ∨ g.get? a = some o ∨ (a, o) ∈ nws) →
    wpAny (model prog w) A (eval iter2 cenv) (fun xv s₄ => Src2End prog w A g C cenv c elt x y v1 m₃ nws (cnt i) s₃ xv s₄) (fun _ _ => False) s₃
def total (cnt : Nat → Nat) (n : Nat) : Nat := ((List.range n).map cnt).sum
theorem total_succ (cnt : Nat → Nat) (n : Nat) : total cnt (n + 1) = total cnt n + cnt n := by
  unfold total
  rw [List.range_succ, List.map_append, List.sum_append]
  simp
structure CO2 (g : Heap) (s : Shared) (D C : Addr) (wr : List Addr) (n : Nat) (St : Nat → Heap → Prop) (cnt : Nat → Nat) (k : Nat) (s' : Shared) : Prop where
  ex : ∃ (h' : Heap) (tk : Nat) (m' : Str → Option Value) (ys : List Value) (i : Nat), s' = { s with heap := h', toks := tk } ∧ St i h' ∧ h'.PlainList D ys.toArray ∧ h'.Ns C m' ∧ ys.length = total cnt i ∧ i ≤ n ∧ k = n + 1 - i ∧ g.StaysIn h'
theorem outer2 {elt iter1 iter2 c : PySem.Expr} {x y : Str} {px py : Pos} {scope : Scope} {pos : Pos} {cenv : Env} {g : Heap} {I D C : Addr} {fp wr : List Addr} {n : Nat} {P : Nat → Value → Prop} {St : Nat → Heap → Prop} {cnt : Nat → Nat} {m : Str → Option Value}
    (W : Walks prog w A I fp wr n P St) (hh : A.handled = none) (hL : cenv.locals = C) (hxy : x ≠ y) (hx : cenv.kindOf x = some .local) (hy : cenv.kindOf y = some .local) (hp : (cenv.scope.kind == .class || (cenv.scope.kind == .module && cenv.locals != cenv.globals)) = false)
    (hs2 : ∀ z, foldedSetIterable iter2 cenv z = pure z)
    (hDC : D ≠ C) (hDf : D ∉ fp) (hCf : C ∉ fp) (hn : n ≤ 1000) (hcnt : ∀ i, i < n → cnt i ≤ 20) (hab : g.objs.size ≤ C) (hC0 : g.get? C = none) (hD0 : g.get? D = none) (hwr : ∀ b ∈ wr, g.get? b = none)
    (hst : St 0 s.heap) (hacc : s.heap.PlainList D #[]) (hns : s.heap.Ns C m) (h0 : g.StaysIn s.heap) (hfp : ∀ i h, St i h → ∀ b ∈ fp, ∃ o, h.get? b = some o)
    (src : Src2 prog w A g C cenv iter2 c elt x y n P cnt)
    (hR : ∀ h' tk m' ys, h'.Ns C m' → h'.PlainList D (List.toArray ys) → ys.length = total cnt n → g.StaysIn h' → R (.ok .next) { s with heap := h', toks := tk }) :
    codeAny (model prog w) A (.compLoop (E2 elt iter1 iter2 c x y px py scope pos) 0 (.ref I) (.ref D) cenv) R s := by
  refine codeAny_loop rfl (CO2 g s D C wr n St cnt) (fun k s' hI => ?_) (n + 1) ⟨s.heap, s.toks, m, [], 0, rfl, hst, hacc, hns, rfl, Nat.zero_le _, rfl, h0⟩
  show wpAny _ A ((compTurn (E2 elt iter1 iter2 c x y px py scope pos) 0 (.ref I) (.ref D) cenv).onRaise (fun x => do noteFrame x cenv; theTreesLotGoes x)) _ _ s'
  refine wpAny_noted ?_
  rw [turn0_eq]
  obtain ⟨H, tk, m', ys, i, rfl, hst', hacc', hn', hl', hi, rfl, hkp⟩ := hI
  have hCw : C ∉ wr := fun h => hCf (W.sub _ h)
  have hDw : D ∉ wr := fun h => hDf (W.sub _ h)
  have tot : ∀ i, i ≤ n → total cnt i ≤ 20 * i := fun i => by
    induction i with
    | zero => intro _; exact Nat.le_refl _
    | succ i ih => intro h; rw [total_succ]; have := hcnt i (by omega); have := ih (by omega); omega
  by_cases hlt : i < n
  · refine wpAny_bind (wpAny_standAt (wpAny_bind (W.item i _ _ _ hlt hst' fun v h₁ tk₁ hPv hst₁ hk₁ => ?_)))
    refine wpAny_bind (wpAny_of_eq (show letOwnedTupleGo (.Name x px) (.ref I) v = pure () from rfl) ?_)
    refine wpAny_bind (PyProof.Rows.assign_Name (wpAny_storeName_local hx (show Heap.Ns h₁ cenv.locals m' from hL ▸ hn'.at' fun o e => hk₁ _ o hCw e) (fun h₂ hn₂ hs₂ => ?_) hp))
    rw [hL] at hn₂ hs₂
    have up₂ : ∀ b o, b ≠ C → b ∉ wr → H.get? b = some o → h₂.get? b = some o := fun b o hbC hbf e => hs₂.extBut b o hbC (hk₁ b o hbf e)
    have st₂ : g.StaysIn h₂ := fun b o e => up₂ b o (fun z => by rw [z, hC0] at e; cases e) (fun z => by rw [hwr b z] at e; cases e) (hkp b o e)
    have hst₂ : St (i + 1) h₂ := W.frame _ _ _ hst₁ fun b hb o e => hs₂.extBut b o (fun h => hCf ((show b = C from h) ▸ hb)) e
    refine wpAny_bind (wpAny_pure ?_)
    obtain ⟨nws, hN, hall⟩ := all_news g h₂ C st₂
    have kp : ∀ {h' : Heap} {m' : Str → Option Value}, Fr g C h' m' → News g C h' nws → ∀ b o, b ≠ C → h₂.get? b = some o → h'.get? b = some o := fun F' N' b o hb e => by
      rcases hall b o e with q | q | q
      · exact absurd q hb
      · exact F'.keep b o q
      · exact (N' _ q).1
    simp only [if_true]
    refine wpAny_bind (wpAny_mono (src i v _ nws { s with heap := h₂, toks := tk₁ + 1 } hlt hPv ⟨hn₂, st₂, hab⟩ (by simp) hN hall) (fun xv s₄ h₄ => ?_) fun _ _ q => q.elim)
    obtain ⟨⟨h₄, tk₄, rfl, F₄, N₄⟩, l, vs, tst, rfl, hlC, hlist, hlfresh, hvs, hcn, test⟩ := h₄
    have hk₄ := kp F₄ N₄
    dsimp only at hlist hlfresh
    have hst₄ : St (i + 1) h₄ := W.frame _ _ _ hst₂ fun b hb o e => hk₄ b o (fun z => hCf (z ▸ hb)) e
    have hD2 : ∃ o, h₂.get? D = some o := by obtain ⟨nn, e⟩ := hacc'; exact ⟨_, up₂ D _ hDC hDw e⟩
    have hacc₄ : h₄.PlainList D ys.toArray := hacc'.at fun o e => hk₄ _ o hDC (up₂ D o hDC hDw e)
    have hlD : l ≠ D := fun z => by
      obtain ⟨o, e⟩ := hD2
      have := hlfresh (z ▸ hD0)
      rw [z, e] at this; cases this
    refine wpAny_bind (wpAny_standAt (wpAny_bind (wpAny_of_eq (hs2 _) (wpAny_bind (wpAny_holding (wpAny_pyIter_list hlist ?_))))))
    have szlt : ∀ b o, h₄.get? b = some o → b < h₄.objs.size := fun b o e => Heap.lt_size e
    have upp : ∀ b o, h₄.get? b = some o → (h₄.push { cls := .type "list_iterator", data := .fields #[.ref l, .int 0 0] }).get? b = some o := fun b o e => Heap.get?_push_of_some _ e
    have hIC : h₄.objs.size ≠ C := fun z => by
      obtain ⟨o, _, _, e, _⟩ := F₄.ns
      have := szlt C o e; rw [← z] at this; exact Nat.lt_irrefl _ this
    have hID : h₄.objs.size ≠ D := fun z => by
      obtain ⟨nn, e⟩ := hacc₄
      have := szlt D _ e; rw [← z] at this; exact Nat.lt_irrefl _ this
    have hlI : l ≠ h₄.objs.size := fun z => by
      obtain ⟨o, e, _⟩ := hlist
      have := szlt l o e; rw [z] at this; exact Nat.lt_irrefl _ this
    have hI0 : g.get? h₄.objs.size = none := by
      cases z : g.get? h₄.objs.size with
      | none => rfl
      | some o => exact absurd (szlt _ o (F₄.keep _ o z)) (Nat.lt_irrefl _)
    have hIf : h₄.objs.size ∉ fp := fun q => by
      obtain ⟨o, e⟩ := hfp _ _ hst₄ _ q
      exact absurd (szlt _ o e) (Nat.lt_irrefl _)
    refine wpAny_bind (wpAny_runOwn ?_ (by intro x; cases x))
    rw [Around.mark_none]
    have it0 : (h₄.push { cls := .type "list_iterator", data := .fields #[.ref l, .int 0 0] }).IsListIter h₄.objs.size l 0 ∧ (h₄.push { cls := .type "list_iterator", data := .fields #[.ref l, .int 0 0] }).IsList l vs.toArray := ⟨⟨_, Heap.get?_push_size _ rfl, rfl, rfl⟩, hlist.at fun o e => upp l o e⟩
    have t1 := tot i (by omega)
    have t2 := tot (i + 1) (by omega)
    have loop := inner2 (prog := prog) (w := w) (A := A) (R := fun r s' => match r with | .ok f => wpAny (model prog w) A (pure (.again (.compLoop (E2 elt iter1 iter2 c x y px py scope pos) 0 (.ref I) (.ref D) cenv)) : Sem PySem.Fin) (fun fin s' => match fin with | .done f => R (.ok f) s' | .again c' => c' = .compLoop (E2 elt iter1 iter2 c x y px py scope pos) 0 (.ref I) (.ref D) cenv ∧ ∃ m, m < n + 1 - i ∧ CO2 g s D C wr n St cnt m s') (fun _ _ => False) s' | .error e => cameBackBy (model prog w) A cenv (notedBy (model prog w) A cenv fun ee s' => R (.error ee) s') e s')
      (s := { s with heap := h₄.push { cls := .type "list_iterator", data := .fields #[.ref l, .int 0 0] }, toks := tk₄ })
      (elt := elt) (iter1 := iter1) (iter2 := iter2) (c := c) (px := px) (py := py) (scope := scope) (pos := pos) (ys0 := ys) hh hL hxy hy hp hDC hIC hID hlI hlC hlD hab hI0 hC0 hD0 (by omega) (F₄.ns.at' fun o e => upp C o e) (by simp) it0 (hacc₄.at fun o e => upp D o e) (fun b o e => upp b o (F₄.keep b o e)) test
      (fun h' tk5 m5 ys5 hn5 _ hl5 hlen5 hk5 => by
        refine wpAny_pure ⟨rfl, n + 1 - (i + 1), by omega, ⟨h', tk5, m5, ys5, i + 1, rfl, ?_, hl5, hn5, by rw [hlen5, hl', hcn, total_succ], hlt, rfl, ?_⟩⟩
        · exact W.frame _ _ _ hst₄ fun b hb o e => hk5 b o (fun z => hCf (z ▸ hb)) (fun z => hDf (z ▸ hb)) (fun z => hIf (z ▸ hb)) (upp b o e)
        · exact fun b o e => hk5 b o (fun z => by rw [z, hC0] at e; cases e) (fun z => by rw [z, hD0] at e; cases e) (fun z => by rw [z, hI0] at e; cases e) (upp b o (F₄.keep b o e)))
    refine codeAny_mono (start1 loop (wpAny_pyIter_listiter it0.1 loop)) fun r s' hr => ?_
    cases r with
    | ok f => exact wpAny_mono hr (fun _ _ q => q) fun _ _ (q : False) => q.elim
    | error e => exact hr
  · have hin : i = n := by omega
    subst hin
    refine wpAny_bind (wpAny_standAt (wpAny_bind (W.done _ _ _ hst' fun h₁ tk₁ hk₁ => ?_)))
    refine wpAny_pure (hR h₁ tk₁ m' ys (hn'.at' fun o e => hk₁ _ o hCw e) (hacc'.at fun o e => hk₁ _ o hDw e) hl' fun b o e => hk₁ b o (fun z => by rw [hwr b z] at e; cases e) (hkp b o e))
end
section
variable {prog : Program} {w : World}
structure CompGo2 (prog : Program) (w : World) (A : Around) (env : Env) (scope : Scope) (cl : List (Str × Addr)) (x y : Str) (iter2 c elt : PySem.Expr) (h₁ : Heap) (Q : Value → Shared → Prop) (it : Value) (s₂ : Shared) : Prop where
  ex : ∃ (I : Addr) (fp wr : List Addr) (n : Nat) (P : Nat → Value → Prop) (St : Nat → Heap → Prop) (cnt : Nat → Nat), h₁.StaysIn (hideAll s₂.heap wr) ∧ it = .ref I ∧ Walks prog w A I fp wr n P St ∧ (∀ i h, St i h → ∀ b ∈ fp, ∃ o, h.get? b = some o) ∧ St 0 s₂.heap ∧
    (∀ b ∈ fp, b < s₂.heap.objs.size) ∧ n ≤ 1000 ∧ (∀ i, i < n → cnt i ≤ 20) ∧ (∀ C, Src2 prog w A (hideAll s₂.heap wr) C (compEnvC scope cl C env) iter2 c elt x y n P cnt) ∧
    ∀ D ys h' tk k, (hideAll s₂.heap wr).StaysIn h' → (hideAll s₂.heap wr).get? D = none → h'.get? D = some (PySem.W.listOf (List.toArray ys) k) → ys.length = total cnt n → Q (.ref D) { s₂ with heap := h', toks := tk }
structure AtIter2 (prog : Program) (w : World) (A : Around) (env : Env) (scope : Scope) (cl : List (Str × Addr)) (x y : Str) (iter2 c elt : PySem.Expr) (z : Str) (Q : Flow → Shared → Prop) (xv : Value) (s₁ : Shared) : Prop where
  ex : ∃ m, s₁.heap.Ns env.locals m ∧ wpAny (model prog w) A (pyIter xv) (fun it s₂ => CompGo2 prog w A env scope cl x y iter2 c elt s₁.heap (fun v s' => ∀ h'', Heap.SameBut env.locals s'.heap h'' → h''.Ns env.locals (fun u => if u = z then some v else m u) → Q .next { s' with heap := h'' }) it s₂) (fun _ _ => False) s₁
theorem comp2 {A : Around} {s : Shared} {Q E : Value → Shared → Prop} {elt iter1 iter2 c : PySem.Expr} {x y : Str} {px py : Pos} {scope : Scope} {cl : List (Str × Addr)} {pos : Pos} {env : Env}
    (hclos : closureFor scope env = pure cl) (hcell : ∀ y ∈ scope.names, y.2 ≠ .cell) (hkind : scope.kind = .function)
    (hnames : ∀ y ∈ scope.names, y.2 = .local → scope.names.lookup y.1 = some .local) (hx : scope.names.lookup x = some .local) (hy : scope.names.lookup y = some .local) (hxy : x ≠ y) (hh : A.handled = none)
    (h : wpAny (model prog w) A (eval iter1 env) (fun xv s₁ => wpAny (model prog w) A (pyIter xv) (fun it s₂ => CompGo2 prog w A env scope cl x y iter2 c elt s₁.heap Q it s₂) (fun _ _ => False) s₁) (fun _ _ => False) s)
    (hs : ∀ x, foldedSetIterable iter1 env x = pure x := by intro _; rfl) (hs2 : ∀ C z, foldedSetIterable iter2 (compEnvC scope cl C env) z = pure z := by intro _ _; rfl) :
    wpAny (model prog w) A (eval (.ListComp elt [⟨.Name x px, iter1, [], 0⟩, ⟨.Name y py, iter2, [c], 0⟩] scope pos) env) Q E s := by
  rw [eval_ListComp]
  refine wpAny_comprehension_free (g := ⟨.Name x px, iter1, [], 0⟩) (gs := [⟨.Name y py, iter2, [c], 0⟩]) rfl hs hclos hkind hnames ?_
  refine wpAny_mono h (fun xv s₁ h₁ => wpAny_mono h₁ (fun it s₂ h₂ => ?_) fun _ _ q => q.elim) fun _ _ q => q.elim
  obtain ⟨I, fp, wr, n, P, St, cnt, hkeep, rfl, W, hex, hst, hfp, hn, hcnt, src, done⟩ := h₂
  obtain ⟨H, gens, drawn, tk, os⟩ := s₂
  refine wpAny_newObj_type (wpAny_newFunctionEnv hcell (by intro y hy; simp at hy) (fun h₁ hns₁ hsb₁ => ?_) hkind)
  dsimp only at hns₁ hsb₁ hst hfp src done hkeep ⊢
  have sz : ∀ b o, H.get? b = some o → b < H.objs.size := fun b o e => Heap.lt_size e
  have e1 : (H.push { cls := .type "list", dict := none, data := .seq ([] : List Value).toArray }).objs.size = H.objs.size + 1 := Heap.size_push ..
  rw [e1] at hns₁ hsb₁ ⊢
  have old : ∀ b o, H.get? b = some o → h₁.get? b = some o := fun b o e => hsb₁.extBut b o (Nat.ne_of_lt (Nat.lt_succ_of_lt (sz b o e))) (Heap.get?_push_of_some _ (Heap.get?_push_of_some _ e))
  have hacc : h₁.PlainList H.objs.size #[] := ⟨_, hsb₁.extBut _ _ (Nat.ne_of_lt (Nat.lt_succ_self _)) (Heap.get?_push_of_some _ (Heap.get?_push_size _ rfl))⟩
  have fresh : ∀ a, H.objs.size ≤ a → (hideAll H wr).get? a = none := fun a ha => by
    cases e : (hideAll H wr).get? a with
    | none => rfl
    | some o' => exact absurd (sz a o' (of_hideAll _ e)) (Nat.not_lt.mpr ha)
  have hst₁ : St 0 h₁ := W.frame _ _ _ hst fun b _ o e => old b o e
  have st₁ : (hideAll H wr).StaysIn h₁ := fun b o e => old b o (of_hideAll _ e)
  have hDf : H.objs.size ∉ fp := fun q => Nat.lt_irrefl _ (hfp _ q)
  have hCf : H.objs.size + 1 ∉ fp := fun q => absurd (hfp _ q) (Nat.not_lt.mpr (Nat.le_succ _))
  have loop : ∀ s₃ : Shared, s₃ = ⟨h₁, gens, drawn, tk + ([] : List (Str × Value)).length, os⟩ →
      codeAny (model prog w) A (.compLoop (E2 elt iter1 iter2 c x y px py scope pos) 0 (.ref I) (.ref H.objs.size) (compEnvC scope cl (H.objs.size + 1) env))
        (compPost (model prog w) A E none Q (.ref H.objs.size) (H.objs.size + 1)) s₃ := by
    rintro s₃ rfl
    refine outer2 (C := H.objs.size + 1) (g := hideAll H wr) W hh rfl hxy (lookup_relabel_local hx) (lookup_relabel_local hy) (by show (scope.kind == .class || (scope.kind == .module && _)) = false; rw [hkind]; rfl) (hs2 _) (Nat.ne_of_lt (Nat.lt_succ_self _)) hDf hCf hn hcnt (by rw [hideAll_size]; exact Nat.le_succ _) (fresh _ (Nat.le_succ _)) (fresh _ (Nat.le_refl _)) (fun b hb => hideAll_none _ hb) hst₁ hacc hns₁ st₁ hex (src _) fun h' tk' m' ys hns hpl hlen hst' => ?_
    refine ⟨m', hns, fun h'' hsb => ?_⟩
    obtain ⟨k, e⟩ := hpl
    exact done _ ys h'' tk' k (fun b o e => hsb.extBut b o (fun z => by rw [z, fresh _ (Nat.le_succ _)] at e; cases e) (hst' b o e)) (fresh _ (Nat.le_refl _)) (hsb.extBut _ _ (Nat.ne_of_lt (Nat.lt_succ_self _)) e) hlen
  exact codeAny_compStart_list (loop _ rfl) (W.self 0 _ _ _ hst₁ (loop _ rfl))
theorem assign_comp2 {A : Around} {s : Shared} {Q : Flow → Shared → Prop} {E : Value → Shared → Prop} {elt iter1 iter2 c : PySem.Expr} {x y z : Str} {px py pz : Pos} {scope : Scope} {cl : List (Str × Addr)} {pos spos : Pos} {env : Env}
    (hsw : swapsWith (.ListComp elt [⟨.Name x px, iter1, [], 0⟩, ⟨.Name y py, iter2, [c], 0⟩] scope pos) (some (.Name z pz)) spos.line env = pure true)
    (hclos : closureFor scope env = pure cl) (hcell : ∀ y ∈ scope.names, y.2 ≠ .cell) (hkind : scope.kind = .function)
    (hnames : ∀ y ∈ scope.names, y.2 = .local → scope.names.lookup y.1 = some .local) (hx : scope.names.lookup x = some .local) (hy : scope.names.lookup y = some .local) (hxy : x ≠ y) (hh : A.handled = none)
    (hz : env.kindOf z = some .local) (hp : (env.scope.kind == .class || (env.scope.kind == .module && env.locals != env.globals)) = false)
    (h : wpAny (model prog w) A (eval iter1 env) (fun xv s₁ => AtIter2 prog w A env scope cl x y iter2 c elt z Q xv s₁) (fun _ _ => False) s)
    (hs : ∀ x, foldedSetIterable iter1 env x = pure x := by intro _; rfl) (hs2 : ∀ C z, foldedSetIterable iter2 (compEnvC scope cl C env) z = pure z := by intro _ _; rfl) :
    wpAny (model prog w) A (exec (.Assign [.Name z pz] (.ListComp elt [⟨.Name x px, iter1, [], 0⟩, ⟨.Name y py, iter2, [c], 0⟩] scope pos) spos) env) Q E s := by
  rw [exec_Assign_Name_used _ _ _ _ hsw]
  refine wpAny_bind (wpAny_standAt (wpAny_bind ?_))
  show wpAny _ A (do let _ ← comprehension (.ListComp elt [⟨.Name x px, iter1, [], 0⟩, ⟨.Name y py, iter2, [c], 0⟩] scope pos) scope env _ (newList []) false (eval iter1 env) (some (assign (.Name z pz) env))) _ _ s
  refine wpAny_bind (wpAny_mono (wpAny_comprehension_free (g := ⟨.Name x px, iter1, [], 0⟩) (gs := [⟨.Name y py, iter2, [c], 0⟩]) (use := some (assign (.Name z pz) env)) (Q := fun _ s' => Q .next s') rfl hs hclos hkind hnames ?_) (fun _ s' hq => wpAny_pure (wpAny_pure hq)) fun _ _ e => e)
  refine wpAny_mono h (fun xv s₁ h₁ => ?_) fun _ _ q => q.elim
  obtain ⟨m, hNs, h₁⟩ := h₁
  refine wpAny_mono h₁ (fun it s₂ h₂ => ?_) fun _ _ q => q.elim
  obtain ⟨I, fp, wr, n, P, St, cnt, hkeep, rfl, W, hex, hst, hfp, hn, hcnt, src, done⟩ := h₂
  obtain ⟨H, gens, drawn, tk, os⟩ := s₂
  refine wpAny_newObj_type (wpAny_newFunctionEnv hcell (by intro y hy; simp at hy) (fun h₁ hns₁ hsb₁ => ?_) hkind)
  dsimp only at hns₁ hsb₁ hst hfp src done hkeep ⊢
  have sz : ∀ b o, H.get? b = some o → b < H.objs.size := fun b o e => Heap.lt_size e
  have e1 : (H.push { cls := .type "list", dict := none, data := .seq ([] : List Value).toArray }).objs.size = H.objs.size + 1 := Heap.size_push ..
  rw [e1] at hns₁ hsb₁ ⊢
  have old : ∀ b o, H.get? b = some o → h₁.get? b = some o := fun b o e => hsb₁.extBut b o (Nat.ne_of_lt (Nat.lt_succ_of_lt (sz b o e))) (Heap.get?_push_of_some _ (Heap.get?_push_of_some _ e))
  have hacc : h₁.PlainList H.objs.size #[] := ⟨_, hsb₁.extBut _ _ (Nat.ne_of_lt (Nat.lt_succ_self _)) (Heap.get?_push_of_some _ (Heap.get?_push_size _ rfl))⟩
  have fresh : ∀ a, H.objs.size ≤ a → (hideAll H wr).get? a = none := fun a ha => by
    cases e : (hideAll H wr).get? a with
    | none => rfl
    | some o' => exact absurd (sz a o' (of_hideAll _ e)) (Nat.not_lt.mpr ha)
  have hst₁ : St 0 h₁ := W.frame _ _ _ hst fun b _ o e => old b o e
  have st₁ : (hideAll H wr).StaysIn h₁ := fun b o e => old b o (of_hideAll _ e)
  have hDf : H.objs.size ∉ fp := fun q => Nat.lt_irrefl _ (hfp _ q)
  have hCf : H.objs.size + 1 ∉ fp := fun q => absurd (hfp _ q) (Nat.not_lt.mpr (Nat.le_succ _))
  have loop : ∀ s₃ : Shared, s₃ = ⟨h₁, gens, drawn, tk + ([] : List (Str × Value)).length, os⟩ →
      codeAny (model prog w) A (.compLoop (E2 elt iter1 iter2 c x y px py scope pos) 0 (.ref I) (.ref H.objs.size) (compEnvC scope cl (H.objs.size + 1) env))
        (compPost (model prog w) A E (some (assign (.Name z pz) env)) (fun _ s' => Q .next s') (.ref H.objs.size) (H.objs.size + 1)) s₃ := by
    rintro s₃ rfl
    refine outer2 (C := H.objs.size + 1) (g := hideAll H wr) W hh rfl hxy (lookup_relabel_local hx) (lookup_relabel_local hy) (by show (scope.kind == .class || (scope.kind == .module && _)) = false; rw [hkind]; rfl) (hs2 _) (Nat.ne_of_lt (Nat.lt_succ_self _)) hDf hCf hn hcnt (by rw [hideAll_size]; exact Nat.le_succ _) (fresh _ (Nat.le_succ _)) (fresh _ (Nat.le_refl _)) (fun b hb => hideAll_none _ hb) hst₁ hacc hns₁ st₁ hex (src _) fun h' tk' m' ys hns hpl hlen hst' => ?_
    have hNs' : h'.Ns env.locals m := by
      obtain ⟨o, es, ep, ho, r⟩ := hNs
      exact ⟨o, es, ep, hst' _ _ (hkeep _ _ ho), r⟩
    have hLC : env.locals ≠ H.objs.size + 1 := fun q => by
      obtain ⟨o, es, ep, ho, r⟩ := hNs
      have z := hkeep _ _ ho
      rw [q, fresh _ (Nat.le_succ _)] at z; cases z
    show wpAny _ A (assign (.Name z pz) env (.ref H.objs.size)) _ _ _
    refine wpAny_assign_Name (wpAny_storeName_local hz hNs' (fun h₂ hn₂ hs₂ => ?_) hp)
    refine ⟨m', hns.sameBut hs₂ (Ne.symm hLC), fun h3 hs3 => ?_⟩
    obtain ⟨k, e⟩ := hpl
    have n3 : h3.Ns env.locals (fun u => if u = z then some (.ref H.objs.size) else m u) := hn₂.sameBut hs3 hLC
    obtain ⟨oL, esL, epL, hoL, _⟩ := hNs'
    obtain ⟨o3, es3, ep3, ho3, _⟩ := id n3
    have hX : (h3.update env.locals fun _ => oL).get? env.locals = some oL := Heap.get?_update_self _ ho3 (Heap.get?_some_iff.mp hoL).2
    have sX : Heap.SameBut env.locals h3 (h3.update env.locals fun _ => oL) := Heap.SameBut.update ..
    have up : ∀ b o, b ≠ H.objs.size + 1 → h'.get? b = some o → (h3.update env.locals fun _ => oL).get? b = some o := fun b o hb e => by
      by_cases q : b = env.locals
      · subst q; rw [hX, ← hoL]; exact e
      · exact (sX.2 b q).trans ((hs3.2 b hb).trans ((hs₂.2 b q).trans e))
    refine done _ ys _ _ k (fun b o e => up b o (fun z => by rw [z, fresh _ (Nat.le_succ _)] at e; cases e) (hst' b o e)) (fresh _ (Nat.le_refl _)) (up _ _ (Nat.ne_of_lt (Nat.lt_succ_self _)) e) hlen h3 ⟨sX.1.symm, fun b hb => (sX.2 b hb).symm⟩ n3
  exact codeAny_compStart_list (loop _ rfl) (W.self 0 _ _ _ hst₁ (loop _ rfl))
end
section
variable {prog : Program} {w : World} {A : Around} {s : Shared} {Q : Value → Shared → Prop} {elt iter2 c : PySem.Expr} {x y : Str} {scope : Scope} {cl : List (Str × Addr)} {env : Env}
theorem go_list2 {l : Addr} {vs : List Value} (cnt : Nat → Nat) (hh : A.handled = none) (hl : s.heap.IsList l vs.toArray) (hn : vs.length ≤ 1000) (hcnt : ∀ i, i < vs.length → cnt i ≤ 20)
    (turn : ∀ g C, s.heap.StaysIn g → g.StaysIn s.heap → Src2 prog w A g C (compEnvC scope cl C env) iter2 c elt x y vs.length (fun i v => vs[i]? = some v) cnt)
    (done : ∀ D ys h' tk k, s.heap.StaysIn h' → s.heap.get? D = none → h'.get? D = some (PySem.W.listOf (List.toArray ys) k) → ys.length = total cnt vs.length → Q (.ref D) { s with heap := h', toks := tk }) :
    wpAny (model prog w) A (pyIter (.ref l)) (fun it s₂ => CompGo2 prog w A env scope cl x y iter2 c elt s.heap Q it s₂) (fun _ _ => False) s := by
  refine wpAny_pyIter_list hl ?_
  obtain ⟨a, b⟩ := hide_push (h := s.heap) (o := { cls := .type "list_iterator", data := .fields #[.ref l, .int 0 0] })
  have hlt : l < s.heap.objs.size := by obtain ⟨o, e, _⟩ := hl; exact Heap.lt_size e
  have hnum : vs.toArray.size = vs.length := by simp
  refine ⟨s.heap.objs.size, [s.heap.objs.size, l], [s.heap.objs.size], vs.length, fun i v => vs[i]? = some v, fun i h => h.IsListIter s.heap.objs.size l i ∧ h.IsList l vs.toArray, cnt, a, rfl, ?W, ?_, ?_, ?_, hn, hcnt, fun C => turn _ C a b, fun D ys h' tk k c d e f => done D ys h' tk k (stays_trans a c) ?_ e f⟩
  case W =>
    have W := Walks.list (prog := prog) (w := w) hh s.heap.objs.size l (Nat.ne_of_lt hlt) vs.toArray
    rw [hnum] at W
    simpa using W
  · intro i h st b hb
    simp only [List.mem_cons, List.not_mem_nil, or_false] at hb
    rcases hb with rfl | rfl
    · obtain ⟨o, e, _⟩ := st.1
      exact ⟨o, e⟩
    · obtain ⟨o, e, _⟩ := st.2
      exact ⟨o, e⟩
  · refine ⟨⟨_, Heap.get?_push_size _ rfl, rfl, rfl⟩, hl.at fun o e => Heap.get?_push_of_some _ e⟩
  · intro b hb
    simp only [List.mem_cons, List.not_mem_nil, or_false] at hb
    show b < (Heap.push _ _).objs.size
    rw [Heap.size_push]
    rcases hb with q | q
    · rw [q]; exact Nat.lt_succ_self _
    · rw [q]; exact Nat.lt_succ_of_lt hlt
  · cases q : s.heap.get? D with
    | none => rfl
    | some o => rw [a D o q] at d; cases d
theorem go_range2 {r : Addr} {a b : Int} {t u v : Tok} {n : Nat} (cnt : Nat → Nat) (hh : A.handled = none) (hr : IsRange s.heap r a b 1 t u v) (hsmall : Builtin.Range.small a b 1 = true) (hsz : Builtin.Range.rangeSize a b 1 = (n : Int)) (hn : n ≤ 1000) (hcnt : ∀ i, i < n → cnt i ≤ 20)
    (turn : ∀ g C, s.heap.StaysIn g → g.StaysIn s.heap → Src2 prog w A g C (compEnvC scope cl C env) iter2 c elt x y n (fun i v => ∃ t, v = .int (a + i * 1) t) cnt)
    (done : ∀ D ys h' tk k, s.heap.StaysIn h' → s.heap.get? D = none → h'.get? D = some (PySem.W.listOf (List.toArray ys) k) → ys.length = total cnt n → Q (.ref D) { s with heap := h', toks := tk }) :
    wpAny (model prog w) A (pyIter (.ref r)) (fun it s₂ => CompGo2 prog w A env scope cl x y iter2 c elt s.heap Q it s₂) (fun _ _ => False) s := by
  refine wpAny_pyIter_range hr hsmall ?_
  rw [hsz]
  obtain ⟨c, d⟩ := hide_push (h := s.heap) (o := { cls := .type "range_iterator", data := .fields #[rawInt a, rawInt (n : Int), rawInt 1] })
  refine ⟨s.heap.objs.size, [s.heap.objs.size], [s.heap.objs.size], n, fun i v => ∃ t, v = .int (a + i * 1) t, fun i h => IsRangeIter h s.heap.objs.size (a + (i : Nat) * 1) ((n : Int) - (i : Nat)) 1, cnt, c, rfl, Walks.range hh s.heap.objs.size a 1 n, ?_, ?_, ?_, hn, hcnt, fun C => turn _ C c d, fun D ys h' tk k e f g i => done D ys h' tk k (stays_trans c e) ?_ g i⟩
  · intro i h st b hb
    rw [List.mem_singleton.mp hb]
    exact ⟨_, st⟩
  · have e1 : a + ((0 : Nat) : Int) * 1 = a := by simp
    have e2 : (n : Int) - ((0 : Nat) : Int) = n := by simp
    show IsRangeIter _ _ (a + ((0 : Nat) : Int) * 1) ((n : Int) - ((0 : Nat) : Int)) 1
    rw [e1, e2]
    exact Heap.get?_push_size _ rfl
  · intro b hb
    rw [List.mem_singleton.mp hb, Heap.size_push]; exact Nat.lt_succ_self _
  · cases q : s.heap.get? D with
    | none => rfl
    | some o => rw [c D o q] at f; cases f
end
end
section
open PySem PySem.W PyProof.Rows PySem.Calls PySem.SeqAt
theorem anew_Mpl : True := by w_top off; trivial
/-- all ways of one or two names -/
def allW (j : Nat) : List (List Str) := (List.range 4).map (fun a => [nameS j a]) ++ (List.range 4).flatMap fun a => (List.range 4).map fun b => [nameS j a, nameS j b]
theorem way_all (j : Nat) (n : Int) : wayS j n ∈ allW j := by
  unfold wayS allW
  have h0 := Int.fmod_nonneg_of_pos n (show (0 : Int) < 2 by decide)
  have h1 := Int.fmod_lt_of_pos n (show (0 : Int) < 2 by decide)
  have d0 := dig_lt n 0
  have d1 := dig_lt n 1
  rcases (by omega : n.fmod 2 = 0 ∨ n.fmod 2 = 1) with e | e
  · rw [e]
    refine List.mem_append_left _ (List.mem_map.mpr ⟨dig n 0, List.mem_range.mpr d0, rfl⟩)
  · rw [e]
    refine List.mem_append_right _ (List.mem_flatMap.mpr ⟨dig n 0, List.mem_range.mpr d0, List.mem_map.mpr ⟨dig n 1, List.mem_range.mpr d1, rfl⟩⟩)
def okW (w : List Str) : Bool := w.all (fun x => PyData.strOk x && decide (x.length ≤ 100) && decide (0 < x.length) && !Txt.startswith x (Str.ofString "/") && !Txt.endswith x (Str.ofString "/")) && decide (w.length ≤ 2) && decide (0 < w.length)
theorem all_ok {j : Nat} (h : j < 4) : ∀ w ∈ allW j, okW w = true := by
  match j, h with
  | 0, _ => decide +kernel
  | 1, _ => decide +kernel
  | 2, _ => decide +kernel
  | 3, _ => decide +kernel
theorem okW_ok {w : List Str} (h : okW w = true) : OkS w := fun x hx => by
  simp only [okW, Bool.and_eq_true, List.all_eq_true] at h
  exact (h.1.1 x hx).1.1.1.1
theorem okW_len {w : List Str} (h : okW w = true) : w.length ≤ 2 ∧ 0 < w.length := by
  simp only [okW, Bool.and_eq_true, decide_eq_true_eq] at h
  exact ⟨h.1.2, h.2⟩
theorem okW_small {w : List Str} (h : okW w = true) : ∀ x ∈ w, x.length ≤ 100 ∧ 0 < x.length := fun x hx => by
  simp only [okW, Bool.and_eq_true, List.all_eq_true, decide_eq_true_eq] at h
  exact ⟨(h.1.1 x hx).1.1.1.2, (h.1.1 x hx).1.1.2⟩
theorem okW_sep {w : List Str} (h : okW w = true) : ∀ x ∈ w, Txt.startswith x (Str.ofString "/") = false ∧ Txt.endswith x (Str.ofString "/") = false := fun x hx => by
  simp only [okW, Bool.and_eq_true, List.all_eq_true, decide_eq_true_eq, Bool.not_eq_true'] at h
  exact ⟨(h.1.1 x hx).1.2, (h.1.1 x hx).2⟩
theorem way_cases {u : List Str} {vs : List Value} (hv : StrsAre vs u) (h : okW u = true) : (∃ x t, u = [x] ∧ vs = [.str x t]) ∨ ∃ x y t t2, u = [x, y] ∧ vs = [.str x t, .str y t2] := by
  have hl := okW_len h
  match u, vs, hv with
  | [], _, _ => simp at hl
  | [x], _, .cons _ t .nil => exact .inl ⟨x, t, rfl, rfl⟩
  | [x, y], _, .cons _ t (.cons _ t2 .nil) => exact .inr ⟨x, y, t, t2, rfl, rfl⟩
  | _ :: _ :: _ :: _, _, _ => simp at hl
/-- the path of a way -/
def pathS (w : List Str) : Str := if w.length = 1 then w.getD 0 Str.empty else w.getD 0 Str.empty ++ (Str.ofString "/" ++ w.getD 1 Str.empty)
theorem pathS_len {w : List Str} (h : okW w = true) : (pathS w).length < 1000 := by
  have hl := okW_len h
  have hs := okW_small h
  match w, hl, hs with
  | [x], _, hs => have := (hs x (.head _)).1; show x.length < 1000; omega
  | [x, y], _, hs =>
    have h1 := (hs x (.head _)).1
    have h2 := (hs y (.tail _ (.head _))).1
    show (x ++ (Str.ofString "/" ++ y)).length < 1000
    have e : (x ++ (Str.ofString "/" ++ y)).length = x.length + (1 + y.length) := by
      show (x.cps ++ (#[47] ++ y.cps)).size = _
      rw [Array.size_append, Array.size_append]
      rfl
    omega
  | _ :: _ :: _ :: _, hl, _ => simp at hl
def okN (w : List Str) : Bool := match w with
  | [x] => splitF x == (Str.ofString "", x) && x != Str.ofString ""
  | [x, y] => splitF (x ++ (Str.ofString "/" ++ y)) == (x, y) && splitF x == (Str.ofString "", x) && x != Str.ofString "" && (x ++ (Str.ofString "/" ++ y)) != Str.ofString "" && decide (x.length ≤ (x ++ (Str.ofString "/" ++ y)).length)
  | _ => false
theorem all_okN {j : Nat} (h : j < 4) : ∀ w ∈ allW j, okN w = true := by
  match j, h with
  | 0, _ => decide +kernel
  | 1, _ => decide +kernel
  | 2, _ => decide +kernel
  | 3, _ => decide +kernel
theorem names_of {w : List Str} (h : okN w = true) : NamesOf (pathS w) w := by
  match w, h with
  | [x], h =>
    simp only [okN, Bool.and_eq_true, beq_iff_eq, bne_iff_ne] at h
    have e : pathS [x] = x := rfl
    rw [e]
    exact NamesOf.snoc (ns := []) h.2 h.1 (Nat.zero_le _) .nil
  | [x, y], h =>
    simp only [okN, Bool.and_eq_true, beq_iff_eq, bne_iff_ne, decide_eq_true_eq] at h
    have e : pathS [x, y] = x ++ (Str.ofString "/" ++ y) := rfl
    rw [e]
    exact NamesOf.snoc (ns := [x]) h.1.2 h.1.1.1.1 h.2 (NamesOf.snoc (ns := []) h.1.1.2 h.1.1.1.2 (Nat.zero_le _) .nil)
/-- each way but once -/
def firsts (P : List (List Str)) (i : Nat) : List (List Str) := ((List.range i).filter fun k => decide (P.getD k [] ∉ P.take k)).map fun k => P.getD k []
theorem firsts_in {P : List (List Str)} {i : Nat} {u : List Str} (h : P[i]? = some u) (hn : u ∉ P.take i) : firsts P (i + 1) = firsts P i ++ [u] := by
  have e : P[i]?.getD [] = u := by rw [h]; rfl
  unfold firsts
  rw [List.range_succ, List.filter_append, List.map_append]
  simp [List.filter_cons, e, hn]
theorem firsts_out {P : List (List Str)} {i : Nat} {u : List Str} (h : P[i]? = some u) (hn : u ∈ P.take i) : firsts P (i + 1) = firsts P i := by
  have e : P[i]?.getD [] = u := by rw [h]; rfl
  unfold firsts
  rw [List.range_succ, List.filter_append, List.map_append]
  simp [List.filter_cons, e, hn]
theorem firsts_len (P : List (List Str)) (i : Nat) : (firsts P i).length ≤ i := by
  unfold firsts
  rw [List.length_map]
  refine Nat.le_trans (List.length_filter_le _ _) (by simp)
theorem firsts_mem {P : List (List Str)} : ∀ w ∈ firsts P P.length, w ∈ P := fun w hw => by
  obtain ⟨k, hk, rfl⟩ := List.mem_map.mp hw
  have := List.mem_range.mp (List.mem_filter.mp hk).1
  rw [List.getD_eq_getElem?_getD, List.getElem?_eq_getElem this]
  exact List.getElem_mem this
end
section
open PySem PySem.W PyProof.Rows PySem.Calls PySem.SeqAt
theorem anew_Mhs : True := by w_top off; trivial
/-- a weak order -/
structure WO (lt : Value → Value → Bool) : Prop where
  asy : ∀ a b, lt a b = true → lt b a = false
  ntr : ∀ a b c, lt b a = false → lt c b = false → lt c a = false
def at' (vs : List Value) (i : Nat) : Value := vs.getD i .none
theorem at_set {vs : List Value} {i j : Nat} {x : Value} (h : i < vs.length) : at' (vs.set i x) j = if j = i then x else at' vs j := by
  unfold at'
  rw [List.getD_eq_getElem?_getD, List.getD_eq_getElem?_getD, List.getElem?_set]
  by_cases e : i = j
  · subst e; simp [h]
  · rw [if_neg e, if_neg (fun q => e q.symm)]
theorem at_get {vs : List Value} {i : Nat} (h : i < vs.length) : at' vs i = vs[i] := by simp [at', h]
theorem set_perm {vs : List Value} {i j : Nat} {x : Value} (hi : i < vs.length) (hj : j < vs.length) (hij : i ≠ j) : ((vs.set i (at' vs j)).set j x).Perm (vs.set i x) := by
  have h := List.set_set_perm (as := vs.set i x) (i := i) (j := j) (by simpa using hi) (by simpa using hj)
  have e1 : (vs.set i x)[j]'(by simpa using hj) = at' vs j := by rw [at_get hj]; simp [hij]
  have e2 : (vs.set i x)[i]'(by simpa using hi) = x := by simp
  rw [e1, e2, List.set_set] at h
  exact h
def IsH (lt : Value → Value → Bool) (vs : List Value) : Prop := ∀ i, 0 < i → i < vs.length → lt (at' vs i) (at' vs ((i - 1) / 2)) = false
theorem sdn_ok {lt : Value → Value → Bool} (O : WO lt) (x : Value) : ∀ (n pos : Nat) (vs : List Value), pos ≤ n → pos < vs.length →
    (∀ i, 0 < i → i < vs.length → i ≠ pos → lt (at' vs i) (if (i - 1) / 2 = pos then x else at' vs ((i - 1) / 2)) = false) →
    (0 < pos → ∀ c, c < vs.length → 0 < c → (c - 1) / 2 = pos → lt (at' vs c) (at' vs ((pos - 1) / 2)) = false) →
    IsH lt (sdn lt x pos vs) ∧ (sdn lt x pos vs).Perm (vs.set pos x)
  | n, pos, vs, hn, hp, ha, hb => by
    rw [sdn]
    simp only [show ∀ (l : List Value) (i : Nat), l.getD i .none = at' l i from fun _ _ => rfl]
    by_cases h0 : 0 < pos
    · rw [if_pos h0]
      have hpp : (pos - 1) / 2 < vs.length := by omega
      have hne : (pos - 1) / 2 ≠ pos := by omega
      by_cases hc : lt x (at' vs ((pos - 1) / 2)) = true
      · rw [if_pos hc]
        match n, hn with
        | 0, hn => omega
        | n + 1, hn =>
          have le1 : (vs.set pos (at' vs ((pos - 1) / 2))).length = vs.length := List.length_set
          have at1 : ∀ k, at' (vs.set pos (at' vs ((pos - 1) / 2))) k = if k = pos then at' vs ((pos - 1) / 2) else at' vs k := fun k => at_set hp
          have r := sdn_ok O x n ((pos - 1) / 2) (vs.set pos (at' vs ((pos - 1) / 2))) (by omega) (by rw [le1]; exact hpp) ?_ ?_
          · exact ⟨r.1, r.2.trans (set_perm hp hpp (Ne.symm hne))⟩
          · intro i h1 h2 h3
            rw [le1] at h2
            rw [at1]
            by_cases e : i = pos
            · subst e
              rw [if_pos rfl, if_pos rfl]
              exact O.asy _ _ hc
            · rw [if_neg e]
              have hai := ha i h1 h2 e
              by_cases e1 : (i - 1) / 2 = pos
              · rw [if_neg (by omega), at1, if_pos e1]
                exact hb h0 i h2 h1 e1
              · rw [if_neg e1] at hai
                by_cases e2 : (i - 1) / 2 = (pos - 1) / 2
                · rw [if_pos e2]
                  rw [e2] at hai
                  exact O.ntr _ _ _ (O.asy _ _ hc) hai
                · rw [if_neg e2, at1, if_neg e1]
                  exact hai
          · intro h1 c h2 h3 h4
            rw [le1] at h2
            have hpar := ha ((pos - 1) / 2) h1 hpp hne
            rw [if_neg (by omega)] at hpar
            rw [at1, at1, if_neg (show ((pos - 1) / 2 - 1) / 2 ≠ pos by omega)]
            by_cases e : c = pos
            · rw [if_pos e]; exact hpar
            · rw [if_neg e]
              have hac := ha c h3 h2 e
              rw [if_neg (by omega), h4] at hac
              exact O.ntr _ _ _ hpar hac
      · rw [if_neg hc]
        refine ⟨fun i h1 h2 => ?_, List.Perm.refl _⟩
        rw [List.length_set] at h2
        rw [at_set hp, at_set hp]
        by_cases e : i = pos
        · subst e
          rw [if_pos rfl, if_neg hne]
          simpa using hc
        · rw [if_neg e]; exact ha i h1 h2 e
    · rw [if_neg h0]
      refine ⟨fun i h1 h2 => ?_, List.Perm.refl _⟩
      rw [List.length_set] at h2
      rw [at_set hp, at_set hp, if_neg (by omega)]
      exact ha i h1 h2 (by omega)
theorem sup_ok {lt : Value → Value → Bool} (O : WO lt) : ∀ (n pos : Nat) (vs : List Value), vs.length ≤ pos + n → pos < vs.length →
    (∀ i, 0 < i → i < vs.length → i ≠ pos → (i - 1) / 2 ≠ pos → lt (at' vs i) (at' vs ((i - 1) / 2)) = false) →
    (0 < pos → ∀ c, c < vs.length → 0 < c → (c - 1) / 2 = pos → lt (at' vs c) (at' vs ((pos - 1) / 2)) = false) →
    (sup lt pos vs).1 < vs.length ∧ vs.length ≤ 2 * (sup lt pos vs).1 + 1 ∧ (∀ i, 0 < i → i < vs.length → i ≠ (sup lt pos vs).1 → lt (at' (sup lt pos vs).2 i) (at' (sup lt pos vs).2 ((i - 1) / 2)) = false) ∧
      ∀ x, ((sup lt pos vs).2.set (sup lt pos vs).1 x).Perm (vs.set pos x)
  | 0, pos, vs, hn, hp, _, _ => absurd hp (by omega)
  | n + 1, pos, vs, hn, hp, ha, hb => by
    rw [sup]
    by_cases h : 2 * pos + 1 < vs.length
    · rw [dif_pos h]
      simp only []
      obtain ⟨c, hcdef⟩ : ∃ c, c = if 2 * pos + 1 + 1 < vs.length ∧ lt (vs.getD (2 * pos + 1) .none) (vs.getD (2 * pos + 1 + 1) .none) = false then 2 * pos + 1 + 1 else 2 * pos + 1 := ⟨_, rfl⟩
      rw [← hcdef]
      have hc1 : c < vs.length ∧ (c = 2 * pos + 1 ∨ c = 2 * pos + 2) := by
        rw [hcdef]; split
        · next h => exact ⟨h.1, .inr rfl⟩
        · exact ⟨h, .inl rfl⟩
      obtain ⟨hcl, hc2⟩ := hc1
      have hcp : (c - 1) / 2 = pos := by omega
      have hmin : ∀ i, i < vs.length → 0 < i → (i - 1) / 2 = pos → lt (at' vs i) (at' vs c) = false := fun i h1 h2 h3 => by
        have irr : ∀ a, lt a a = false := fun a => by
          cases e : lt a a with
          | false => rfl
          | true => have := O.asy _ _ e; rw [e] at this; cases this
        rcases (by omega : i = 2 * pos + 1 ∨ i = 2 * pos + 2) with rfl | rfl
        · by_cases q : 2 * pos + 1 + 1 < vs.length ∧ lt (vs.getD (2 * pos + 1) .none) (vs.getD (2 * pos + 1 + 1) .none) = false
          · rw [hcdef, if_pos q]; exact q.2
          · rw [hcdef, if_neg q]; exact irr _
        · by_cases q : 2 * pos + 1 + 1 < vs.length ∧ lt (vs.getD (2 * pos + 1) .none) (vs.getD (2 * pos + 1 + 1) .none) = false
          · rw [hcdef, if_pos q]; exact irr _
          · rw [hcdef, if_neg q]
            refine O.asy _ _ ?_
            have : ¬ lt (vs.getD (2 * pos + 1) .none) (vs.getD (2 * pos + 1 + 1) .none) = false := fun z => q ⟨h1, z⟩
            rw [Bool.not_eq_false] at this
            exact this
      have le1 : (vs.set pos (at' vs c)).length = vs.length := List.length_set
      have at1 : ∀ k, at' (vs.set pos (at' vs c)) k = if k = pos then at' vs c else at' vs k := fun k => at_set hp
      have r := sup_ok O n c (vs.set pos (at' vs c)) (by rw [le1]; omega) (by rw [le1]; exact hcl) ?_ ?_
      · rw [le1] at r
        exact ⟨r.1, r.2.1, r.2.2.1, fun x => (r.2.2.2 x).trans (set_perm hp hcl (by omega))⟩
      · intro i h1 h2 h3 h4
        rw [le1] at h2
        rw [at1, at1]
        by_cases e : i = pos
        · subst e
          rw [if_pos rfl, if_neg (by omega)]
          exact hb (by omega) c hcl (by omega) hcp
        · rw [if_neg e]
          by_cases e1 : (i - 1) / 2 = pos
          · rw [if_pos e1]; exact hmin i h2 h1 e1
          · rw [if_neg e1]; exact ha i h1 h2 e e1
      · intro h1 d h2 h3 h4
        rw [le1] at h2
        rw [at1, at1, hcp, if_pos rfl, if_neg (by omega)]
        have := ha d h3 h2 (by omega) (by omega)
        rwa [h4] at this
    · rw [dif_neg h]
      refine ⟨hp, by show vs.length ≤ 2 * pos + 1; omega, fun i h1 h2 h3 => ha i h1 h2 h3 (by omega), fun x => List.Perm.refl _⟩
theorem siftup_ok {lt : Value → Value → Bool} (O : WO lt) {y : Value} {r : List Value} {u : Value} (H : IsH lt (u :: r)) : IsH lt (siftupL lt (y :: r)) ∧ (siftupL lt (y :: r)).Perm (y :: r) := by
  have hl : 0 < (y :: r).length := Nat.succ_pos _
  have hk : ∀ i, 0 < i → at' (y :: r) i = at' (u :: r) i := fun i hi => by
    cases i with
    | zero => omega
    | succ i => rfl
  obtain ⟨h1, h2, h3, h4⟩ := sup_ok O (y :: r).length 0 (y :: r) (by omega) hl (fun i a b c d => by
    rw [hk i a, hk _ (by omega)]
    exact H i a b) (fun z => absurd z (Nat.lt_irrefl _))
  unfold siftupL
  have e0 : (y :: r).getD 0 .none = y := rfl
  rw [e0]
  simp only []
  have hlen : (sup lt 0 (y :: r)).2.length = (y :: r).length := sup_len lt 0 (y :: r)
  have at1 : ∀ k, at' ((sup lt 0 (y :: r)).2.set (sup lt 0 (y :: r)).1 y) k = if k = (sup lt 0 (y :: r)).1 then y else at' (sup lt 0 (y :: r)).2 k := fun k => at_set (by rw [hlen]; exact h1)
  have rr := sdn_ok O y (sup lt 0 (y :: r)).1 (sup lt 0 (y :: r)).1 ((sup lt 0 (y :: r)).2.set (sup lt 0 (y :: r)).1 y) (Nat.le_refl _) (by rw [List.length_set, hlen]; exact h1) ?_ ?_
  · refine ⟨rr.1, rr.2.trans ?_⟩
    rw [List.set_set]
    have := h4 y
    simpa using this
  · intro i a b c
    rw [List.length_set, hlen] at b
    rw [if_neg (by omega), at1, at1, if_neg c, if_neg (by omega)]
    exact h3 i a b c
  · intro _ c a b d
    rw [List.length_set, hlen] at a
    omega
theorem push_ok {lt : Value → Value → Bool} (O : WO lt) {hp : List Value} (H : IsH lt hp) (v : Value) : IsH lt (pushOne lt hp v) ∧ (pushOne lt hp v).Perm (hp ++ [v]) := by
  unfold pushOne
  have hk : ∀ i, i < hp.length → at' (hp ++ [v]) i = at' hp i := fun i hi => by
    unfold at'
    rw [List.getD_eq_getElem?_getD, List.getD_eq_getElem?_getD, List.getElem?_append_left hi]
  have r := sdn_ok O v hp.length hp.length (hp ++ [v]) (Nat.le_refl _) (by simp) (fun i a b c => by
    have hi : i < hp.length := by simp at b; omega
    rw [if_neg (by omega), hk i hi, hk _ (by omega)]
    exact H i a hi) (fun _ c a b d => by simp at a; omega)
  refine ⟨r.1, r.2.trans ?_⟩
  have : (hp ++ [v]).set hp.length v = hp ++ [v] := by simp
  rw [this]
theorem pushAll_ok {lt : Value → Value → Bool} (O : WO lt) : ∀ (vs hp : List Value), IsH lt hp → IsH lt (vs.foldl (pushOne lt) hp) ∧ (vs.foldl (pushOne lt) hp).Perm (hp ++ vs)
  | [], hp, H => ⟨H, by simp⟩
  | v :: vs, hp, H => by
    obtain ⟨a, b⟩ := push_ok O H v
    obtain ⟨c, d⟩ := pushAll_ok O vs (pushOne lt hp v) a
    refine ⟨c, d.trans ?_⟩
    have := b.append_right vs
    simpa using this
theorem root_min {lt : Value → Value → Bool} (O : WO lt) {vs : List Value} (H : IsH lt vs) : ∀ (n i : Nat), i ≤ n → i < vs.length → lt (at' vs i) (at' vs 0) = false
  | n, 0, _, _ => by
    cases e : lt (at' vs 0) (at' vs 0) with
    | false => rfl
    | true => have := O.asy _ _ e; rw [e] at this; cases this
  | 0, i + 1, h, _ => absurd h (by omega)
  | n + 1, i + 1, h, hl => O.ntr _ _ _ (root_min O H n ((i + 1 - 1) / 2) (by omega) (by omega)) (H (i + 1) (Nat.succ_pos _) hl)
theorem pop_ok {lt : Value → Value → Bool} (O : WO lt) {us : List Value} {y : Value} (H : IsH lt (us ++ [y])) : IsH lt (popL lt us y).2 ∧ ((popL lt us y).1 :: (popL lt us y).2).Perm (us ++ [y]) ∧ ∀ v ∈ us ++ [y], lt v (popL lt us y).1 = false := by
  have rm : ∀ v ∈ us ++ [y], lt v (at' (us ++ [y]) 0) = false := fun v hv => by
    obtain ⟨i, hi, e⟩ := List.getElem_of_mem hv
    have := root_min O H i i (Nat.le_refl _) hi
    rwa [at_get hi, e] at this
  cases us with
  | nil => exact ⟨fun i _ h => absurd h (Nat.not_lt_zero _), List.Perm.refl _, rm⟩
  | cons u r =>
    have H' : IsH lt (u :: r) := fun i a b => by
      have hk : ∀ k, k < (u :: r).length → at' (u :: r ++ [y]) k = at' (u :: r) k := fun k hk => by
        unfold at'
        rw [List.getD_eq_getElem?_getD, List.getD_eq_getElem?_getD, List.getElem?_append_left hk]
      have := H i a (by simp at b ⊢; omega)
      rwa [hk i b, hk _ (by omega)] at this
    obtain ⟨a, b⟩ := siftup_ok O (y := y) H'
    refine ⟨a, ?_, rm⟩
    show (u :: siftupL lt (y :: r)).Perm (u :: r ++ [y])
    refine (b.cons u).trans ?_
    rw [List.cons_append]
    exact ((List.perm_append_singleton y r).symm).cons u
theorem popN_ok {lt : Value → Value → Bool} (O : WO lt) : ∀ (n : Nat) (vs : List Value), vs.length = n → IsH lt vs → (popN lt n vs).Perm vs ∧ (popN lt n vs).Pairwise fun a b => lt b a = false
  | 0, vs, h, _ => by
    rw [List.length_eq_zero_iff.mp h]
    exact ⟨List.Perm.refl _, List.Pairwise.nil⟩
  | n + 1, vs, h, H => by
    rcases snoc_cases vs with rfl | ⟨us, y, rfl⟩
    · simp at h
    · rw [popN_snoc]
      obtain ⟨a, b, c⟩ := pop_ok O H
      have hl : (popL lt us y).2.length = n := by rw [popL_length]; simp at h; exact h
      obtain ⟨d, e⟩ := popN_ok O n _ hl a
      refine ⟨(d.cons _).trans b, List.Pairwise.cons (fun v hv => ?_) e⟩
      exact c v (b.mem_iff.mp (.tail _ (d.mem_iff.mp hv)))
/-- what _law_off does to a list -/
theorem heapsort {lt : Value → Value → Bool} (O : WO lt) (vs : List Value) : (popN lt vs.length (pushAll lt vs)).Perm vs ∧ (popN lt vs.length (pushAll lt vs)).Pairwise fun a b => lt b a = false := by
  obtain ⟨a, b⟩ := pushAll_ok O vs [] fun i _ h => absurd h (Nat.not_lt_zero _)
  rw [List.nil_append] at b
  have hl : (pushAll lt vs).length = vs.length := b.length_eq
  obtain ⟨c, d⟩ := popN_ok O vs.length (pushAll lt vs) hl a
  exact ⟨c.trans b, d⟩
end
section
open PySem PySem.W PyProof.Rows PySem.Calls PySem.SeqAt
theorem anew_Moff : True := by w_top off; trivial
/-- what a value is sorted by, a text -/
def keyV : Value → List Nat
  | .str x _ => x.cps.toList
  | _ => []
def ltV (v u : Value) : Bool := decide (keyV v < keyV u)
theorem strs_mem {vs : List Value} {xs : List Str} (H : StrsAre vs xs) : ∀ v ∈ vs, ∃ x t, v = .str x t := by
  induction H with
  | nil => simp
  | cons y t _ ih => exact fun v hv => (List.mem_cons.mp hv).elim (fun q => ⟨y, t, q⟩) (ih v)
theorem ltV_all {prog : Program} {w : World} {hb : Heap} {vs : List Value} {xs : List Str} (H : StrsAre vs xs) : LtAll prog w hb ltV vs := by
  intro v hv u hu A s Q E _ _ h
  obtain ⟨x, t, rfl⟩ := strs_mem H v hv
  obtain ⟨y, t2, rfl⟩ := strs_mem H u hu
  exact PyProof.Rows.lt_str (h s.toks)
def strV : Value → Str
  | .str x _ => x
  | _ => Str.empty
theorem map_strV {vs : List Value} {xs : List Str} (H : StrsAre vs xs) : vs.map strV = xs := by
  induction H with
  | nil => rfl
  | cons y t _ ih => rw [List.map_cons, ih]; rfl
/-- what a list of texts in the heap is sorted by -/
def strsOf (h : Heap) : Value → List Str
  | .ref a => match h.get? a with
    | some o => match o.data with
      | .seq its _ => its.toList.map strV
      | _ => []
    | none => []
  | _ => []
theorem strsOf_eq {h : Heap} {a : Addr} {vs : List Value} {n : Nat} {w : List Str} (e : h.get? a = some (listOf vs.toArray n)) (H : StrsAre vs w) : strsOf h (.ref a) = w := by
  rw [← map_strV H]
  simp [strsOf, e, PySem.W.listOf]
def ltR (h : Heap) (v u : Value) : Bool := ltStrs (strsOf h v) (strsOf h u)
theorem lr_mem {h : Heap} {ys : List Value} {ws : List (List Str)} (H : LR (fun a o => h.get? a = some o) ys ws) : ∀ v ∈ ys, ∃ a vs n w, v = .ref a ∧ h.get? a = some (listOf vs.toArray n) ∧ StrsAre vs w := by
  induction H with
  | nil => simp
  | cons e s _ ih => exact fun v hv => (List.mem_cons.mp hv).elim (fun q => ⟨_, _, _, _, q, e, s⟩) (ih v)
theorem ltR_all {prog : Program} {w : World} {hb : Heap} {ys : List Value} {ws : List (List Str)} (H : LR (fun a o => hb.get? a = some o) ys ws) : LtAll prog w hb (ltR hb) ys := by
  intro v hv u hu A s Q E hst hun h
  obtain ⟨a, vs, n, x, rfl, e, sx⟩ := lr_mem H v hv
  obtain ⟨b, us, k, y, rfl, e2, sy⟩ := lr_mem H u hu
  refine cmp_lt_strs (vs := vs) (us := us) (xs := x) (ys := y) ⟨_, hst _ _ e, rfl, _, rfl⟩ ⟨_, hst _ _ e2, rfl, _, rfl⟩ sx sy (by omega) ?_
  have q := h s.toks
  rw [ltR, strsOf_eq e sx, strsOf_eq e2 sy] at q
  exact q
theorem lex_tr {a b c : List Nat} (h1 : a < b) (h2 : b < c) : a < c := List.lt_trans h1 h2
theorem ltStrs_tr : ∀ (x y z : List Str), ltStrs x y = true → ltStrs y z = true → ltStrs x z = true
  | [], [], _, h, _ => by simp [ltStrs] at h
  | [], _ :: _, [], _, h => by simp [ltStrs] at h
  | [], _ :: _, _ :: _, _, _ => by simp [ltStrs]
  | _ :: _, [], _, h, _ => by simp [ltStrs] at h
  | _ :: _, _ :: _, [], _, h => by simp [ltStrs] at h
  | a :: x, b :: y, c :: z, h1, h2 => by
    simp only [ltStrs] at h1 h2 ⊢
    by_cases e1 : a = b
    · subst e1
      simp only [beq_self_eq_true, if_true] at h1
      by_cases e2 : a = c
      · subst e2
        simp only [beq_self_eq_true, if_true] at h2 ⊢
        exact ltStrs_tr x y z h1 h2
      · rw [if_neg (by simpa using e2)] at h2 ⊢; exact h2
    · rw [if_neg (by simpa using e1)] at h1
      by_cases e2 : b = c
      · subst e2; rw [if_neg (by simpa using e1)]; exact h1
      · rw [if_neg (by simpa using e2)] at h2
        have h3 := List.lt_trans (of_decide_eq_true h1) (of_decide_eq_true h2)
        have e3 : a ≠ c := by rintro rfl; exact List.lt_irrefl _ h3
        rw [if_neg (by simpa using e3)]
        exact decide_eq_true h3
theorem str_eq {a b : Str} (h : a.cps.toList = b.cps.toList) : a = b := by
  cases a; cases b
  have := Array.toList_inj.mp h
  simp only at this
  rw [this]
theorem ltStrs_tot : ∀ (x y : List Str), x ≠ y → ltStrs x y = false → ltStrs y x = true
  | [], [], h, _ => absurd rfl h
  | [], _ :: _, _, h => by simp [ltStrs] at h
  | _ :: _, [], _, _ => by simp [ltStrs]
  | a :: x, b :: y, hn, h => by
    simp only [ltStrs] at h ⊢
    by_cases e : a = b
    · subst e
      simp only [beq_self_eq_true, if_true] at h ⊢
      exact ltStrs_tot x y (fun q => hn (by rw [q])) h
    · rw [if_neg (by simpa using e)] at h
      rw [if_neg (by simpa using fun q : b = a => e q.symm)]
      have h1 := of_decide_eq_false h
      refine decide_eq_true ?_
      rcases List.le_iff_lt_or_eq.mp (List.not_lt.mp h1) with q | q
      · exact q
      · exact absurd (str_eq q.symm) e
theorem ltStrs_asy (x y : List Str) (h : ltStrs x y = true) : ltStrs y x = false := by
  cases e : ltStrs y x with
  | false => rfl
  | true =>
    have z := ltStrs_tr x y x h e
    have irr : ∀ x, ltStrs x x = false := by
      intro x
      induction x with
      | nil => rfl
      | cons a r ih => simp [ltStrs, ih]
    rw [irr] at z; cases z
theorem strs_of {l : List Value} : (∀ v ∈ l, ∃ x t, v = .str x t) → StrsAre l (l.map strV) := by
  induction l with
  | nil => intro _; exact .nil
  | cons v r ih =>
    intro h
    obtain ⟨x, t, rfl⟩ := h v (.head _)
    exact .cons x t (ih fun u hu => h u (.tail _ hu))
theorem woV : WO ltV := ⟨fun a b h => decide_eq_false (List.lt_asymm (of_decide_eq_true h)), fun a b c h1 h2 => decide_eq_false (List.not_lt.mpr (List.le_trans (List.not_lt.mp (of_decide_eq_false h1)) (List.not_lt.mp (of_decide_eq_false h2))))⟩
theorem woR (h : Heap) : WO (ltR h) := ⟨fun a b h => ltStrs_asy _ _ h, fun a b c h1 h2 => by
  unfold ltR at *
  cases e : ltStrs (strsOf h c) (strsOf h a) with
  | false => rfl
  | true =>
    by_cases q : strsOf h a = strsOf h b
    · rw [q] at e; rw [e] at h2; cases h2
    · have h3 := ltStrs_tot _ _ (fun z => q z.symm) h1
      rw [ltStrs_tr _ _ _ e h3] at h2; cases h2⟩
theorem off_strs {vs : List Value} {xs : List Str} (H : StrsAre vs xs) : ∃ xs', StrsAre (popN ltV vs.length (pushAll ltV vs)) xs' ∧ xs'.Perm xs ∧ xs'.Pairwise fun x y => ¬ y.cps.toList < x.cps.toList := by
  obtain ⟨pm, so⟩ := heapsort woV vs
  have hm : ∀ v ∈ popN ltV vs.length (pushAll ltV vs), ∃ x t, v = .str x t := fun v hv => strs_mem H v (pm.mem_iff.mp hv)
  refine ⟨_, strs_of hm, ?_, ?_⟩
  · have := pm.map strV
    rwa [map_strV H] at this
  · rw [List.pairwise_map]
    refine List.Pairwise.imp_of_mem (fun {a b} ha hb h => ?_) so
    obtain ⟨x, t, rfl⟩ := hm a ha
    obtain ⟨y, u, rfl⟩ := hm b hb
    exact of_decide_eq_false h
theorem lr_both {h : Heap} {R : Addr → Obj → Prop} {ys : List Value} {ws : List (List Str)} (H : LR R ys ws) : LR (fun a o => h.get? a = some o) ys ws → ∀ v ∈ ys, ∃ a vs n w, v = .ref a ∧ R a (PySem.W.listOf vs.toArray n) ∧ StrsAre vs w ∧ strsOf h v = w := by
  induction H with
  | nil => intro _ v hv; exact nomatch hv
  | cons e s _ ih =>
    intro G v hv
    cases G with
    | cons e2 s2 G' =>
      rcases List.mem_cons.mp hv with rfl | hv
      · exact ⟨_, _, _, _, rfl, e, s, strsOf_eq e2 s2⟩
      · exact ih G' v hv
theorem lr_of {h : Heap} {R : Addr → Obj → Prop} {l : List Value} : (∀ v ∈ l, ∃ a vs n w, v = .ref a ∧ R a (PySem.W.listOf vs.toArray n) ∧ StrsAre vs w ∧ strsOf h v = w) → LR R l (l.map (strsOf h)) := by
  induction l with
  | nil => intro _; exact .nil
  | cons v r ih =>
    intro q
    obtain ⟨a, vs, n, w, rfl, e, s, hw⟩ := q v (.head _)
    rw [List.map_cons, hw]
    exact .cons e s (ih fun u hu => q u (.tail _ hu))
theorem map_strsOf {h : Heap} {ys : List Value} {ws : List (List Str)} (G : LR (fun a o => h.get? a = some o) ys ws) : ys.map (strsOf h) = ws := by
  induction G with
  | nil => rfl
  | cons e s _ ih => rw [List.map_cons, ih, strsOf_eq e s]
theorem off_lists {h : Heap} {R : Addr → Obj → Prop} {ys : List Value} {ws : List (List Str)} (H : LR R ys ws) (G : LR (fun a o => h.get? a = some o) ys ws) :
    ∃ ws', LR R (popN (ltR h) ys.length (pushAll (ltR h) ys)) ws' ∧ ws'.Perm ws ∧ ws'.Pairwise fun x y => ltStrs y x = false := by
  obtain ⟨pm, so⟩ := heapsort (woR h) ys
  refine ⟨_, lr_of fun v hv => lr_both H G v (pm.mem_iff.mp hv), ?_, ?_⟩
  · have := pm.map (strsOf h)
    rwa [map_strsOf G] at this
  · rw [List.pairwise_map]
    exact so
end
section
open PySem PySem.W PyProof.Rows PySem.Calls PySem.SeqAt
open PySem.MeetsSeq PySem.MeetsSeq2 PySem.MeetsSeq3
theorem anew_Msort : True := by w_top off; trivial
section
variable {prog : Program} {w : World} {A : Around} {E : Value → Shared → Prop} {s : Shared}
theorem kind_lists {ks : List Value} {ws : List (List Str)} {Q : SortKind → Shared → Prop} (H : LR (fun a o => s.heap.get? a = some o) ks ws) (h2 : 2 ≤ ks.length) (h : Q oneType' s) : wpAny (model prog w) A (keyKind' ks.toArray) Q E s := by
  refine kas_kind (T := .type "list") h2 (fun v hv => ?_) (by decide) (by decide) h
  obtain ⟨a, vs, n, w', rfl, e, _⟩ := lr_mem H v hv
  exact (Looks.ld e).andThen .now
theorem lt_lists {a b : Addr} {vs us : List Value} {n k : Nat} {xs ys : List Str} {Q : Bool → Shared → Prop} (ha : s.heap.get? a = some (listOf vs.toArray n)) (hb : s.heap.get? b = some (listOf us.toArray k)) (hx : StrsAre vs xs) (hy : StrsAre us ys) (hu : A.units < cLine)
    (h : Q (ltStrs xs ys) s) : wpAny (model prog w) A (keyLt' oneType' (.ref a) (.ref b)) Q E s := by
  rw [keyLt'_oneType, oneLt'_eq]
  simp only [if_true]
  refine wpAny_bind (wpAny_cRoomFor hu ?_)
  have Q0 : wpAny (model prog w) A (call (.builtin "list.__lt__") [.ref a, .ref b]) (fun v s' => v = .bool (ltStrs xs ys) ∧ s' = s) E s :=
    call_meets F.slot_list_lt ⟨_, ha, rfl⟩ F.entry_list_lt (F.args_list_lt_2 _ _) (list_lt_meets a b vs us xs ys hx hy n k _ _ _ _) ⟨ha, hb, rfl, rfl⟩
  refine wpAny_bind (wpAny_callSpecialIfBound?_slot ⟨_, ha, rfl⟩ F.slot_list_lt (wpAny_mono Q0 (fun v s' q => ?_) fun _ _ e => e))
  obtain ⟨rfl, rfl⟩ := q
  exact wpAny_truthy_bool h
end
/-- the questions that a sort asks, all of them of the first n, and what it ends with -/
def Good (n : Nat) (lt : Nat → Nat → Bool) {α : Type} : KasT α → (α → Prop) → Prop
  | .ret a, Q => Q a
  | .ask i j k, Q => i < n ∧ j < n ∧ Good n lt (k (lt i j)) Q
theorem Good.bind {n : Nat} {lt : Nat → Nat → Bool} {α β : Type} {f : α → KasT β} {Q : β → Prop} : ∀ {t : KasT α}, Good n lt t (fun a => Good n lt (f a) Q) → Good n lt (t.bind f) Q
  | .ret _, h => h
  | .ask _ _ k, h => ⟨h.1, h.2.1, Good.bind (t := k _) h.2.2⟩
theorem Good.mono {n : Nat} {lt : Nat → Nat → Bool} {α : Type} {Q Q' : α → Prop} (hq : ∀ a, Q a → Q' a) : ∀ {t : KasT α}, Good n lt t Q → Good n lt t Q'
  | .ret _, h => hq _ h
  | .ask _ _ k, h => ⟨h.1, h.2.1, Good.mono hq (t := k _) h.2.2⟩
theorem Good.wp {n : Nat} {lt : Nat → Nat → Bool} {α : Type} {Q : α → Prop} {s : Shared} {Q' : α → Shared → Prop} {cmp : Nat → Nat → (Bool → Shared → Prop) → Shared → Prop}
    (hc : ∀ i j C, i < n → j < n → C (lt i j) s → cmp i j C s) (hq : ∀ a, Q a → Q' a s) : ∀ {t : KasT α}, Good n lt t Q → t.kasWp cmp Q' s
  | .ret _, h => hq _ h
  | .ask _ _ k, h => hc _ _ _ h.1 h.2.1 (Good.wp hc hq (t := k _) h.2.2)
theorem Good.step {n : Nat} {lt : Nat → Nat → Bool} {α : Type} {Q : α → Prop} {i j : Nat} {k : Bool → KasT α} (hi : i < n) (hj : j < n) (h1 : lt i j = true → Good n lt (k true) Q) (h2 : lt i j = false → Good n lt (k false) Q) : Good n lt (.ask i j k) Q := by
  refine ⟨hi, hj, ?_⟩
  cases e : lt i j with
  | true => exact h1 e
  | false => exact h2 e
section
variable {n : Nat} {lt : Nat → Nat → Bool}
/-- a strict order of the first n -/
structure SO (n : Nat) (lt : Nat → Nat → Bool) : Prop where
  tr : ∀ i j k, lt i j = true → lt j k = true → lt i k = true
  tot : ∀ i j, i < n → j < n → i ≠ j → lt i j = false → lt j i = true
  asy : ∀ i j, lt i j = true → lt j i = false
/-- an order of the first n numbers -/
structure PP (n : Nat) (p : Array Nat) : Prop where
  sz : p.size = n
  pm : p.Perm (List.toArray (List.range n))
def g (p : Array Nat) (i : Nat) : Nat := p.getD i 0
theorem g_eq {p : Array Nat} {i : Nat} (h : i < p.size) : g p i = p[i] := by simp [g, Array.getD, h]
theorem PP.mem {p : Array Nat} (P : PP n p) {i : Nat} (h : i < n) : g p i < n := by
  have hi : i < p.size := P.sz.symm ▸ h
  rw [g_eq hi]
  have : p[i] ∈ List.toArray (List.range n) := P.pm.mem_iff.mp (Array.getElem_mem hi)
  simpa using this
theorem PP.ne {p : Array Nat} (P : PP n p) {i j : Nat} (hi : i < n) (hj : j < n) (h : i ≠ j) : g p i ≠ g p j := by
  have hi' : i < p.size := P.sz.symm ▸ hi
  have hj' : j < p.size := P.sz.symm ▸ hj
  rw [g_eq hi', g_eq hj']
  have nd : p.toList.Nodup := (Array.perm_iff_toList_perm.mp P.pm).nodup_iff.mpr (by simpa using List.nodup_range)
  intro e
  have pw := List.pairwise_iff_getElem.mp nd
  rcases Nat.lt_or_gt_of_ne h with z | z
  · exact pw i j (by simpa using hi') (by simpa using hj') z (by simpa using e)
  · exact pw j i (by simpa using hj') (by simpa using hi') z (by simpa using e.symm)
theorem g_def (p : Array Nat) (i : Nat) : g p i = p[i]?.getD 0 := by rw [g, Array.getD_eq_getD_getElem?]
def Srt (lt : Nat → Nat → Bool) (p : Array Nat) (k : Nat) : Prop := ∀ i j, i < j → j < k → lt (g p i) (g p j) = true
theorem srt_adj (S : SO n lt) {p : Array Nat} {k : Nat} (h : ∀ i, i + 1 < k → lt (g p i) (g p (i + 1)) = true) : Srt lt p k := by
  intro i j hij
  obtain ⟨d, rfl⟩ : ∃ d, j = i + 1 + d := ⟨j - (i + 1), by omega⟩
  induction d with
  | zero => intro hk; exact h i hk
  | succ d ih => intro hk; exact S.tr _ _ _ (ih (by omega) (by omega)) (h (i + 1 + d) hk)
theorem asc_good (S : SO n lt) {p : Array Nat} (P : PP n p) : ∀ (f a : Nat), 1 ≤ a → a + f ≤ n →
    Good n lt (kas_asc p f a) (fun m => a ≤ m ∧ m ≤ a + f ∧ (∀ i, a ≤ i → i < m → lt (g p (i - 1)) (g p i) = true) ∧ (m < a + f → lt (g p m) (g p (m - 1)) = true))
  | 0, a, _, _ => ⟨Nat.le_refl _, Nat.le_refl _, fun i h1 h2 => absurd h2 (by omega), fun h => absurd h (by omega)⟩
  | f + 1, a, h1, hn => by
    refine Good.step (P.mem (by omega)) (P.mem (by omega)) (fun e => ?_) fun e => ?_
    · rw [if_pos rfl]
      exact ⟨Nat.le_refl _, by omega, fun i h1 h2 => absurd h2 (by omega), fun _ => e⟩
    · rw [if_neg (by simp)]
      refine Good.mono (fun m q => ?_) (asc_good S P f (a + 1) (by omega) (by omega))
      obtain ⟨q1, q2, q3, q4⟩ := q
      refine ⟨by omega, by omega, fun i hi hm => ?_, fun hm => q4 (by omega)⟩
      rcases Nat.eq_or_lt_of_le hi with rfl | hi
      · exact S.tot _ _ (P.mem (by omega)) (P.mem (by omega)) (P.ne (by omega) (by omega) (by omega)) e
      · exact q3 i (by omega) hm
theorem desc_good (S : SO n lt) {p : Array Nat} (P : PP n p) : ∀ (f a : Nat), 1 ≤ a → a + f ≤ n →
    Good n lt (kas_desc f p a 0) (fun r => r.1 = p ∧ r.2.2 = 0 ∧ a ≤ r.2.1 ∧ r.2.1 ≤ a + f ∧ ∀ i, a ≤ i → i < r.2.1 → lt (g p i) (g p (i - 1)) = true)
  | 0, a, _, _ => ⟨rfl, rfl, Nat.le_refl _, Nat.le_refl _, fun i h1 h2 => absurd h2 (by show ¬ i < a; omega)⟩
  | f + 1, a, h1, hn => by
    refine Good.step (P.mem (by omega)) (P.mem (by omega)) (fun e => ?_) fun e => ?_
    · rw [if_pos rfl, if_neg (by omega)]
      refine Good.mono (fun r q => ?_) (desc_good S P f (a + 1) (by omega) (by omega))
      obtain ⟨q0, q1, q2, q3, q4⟩ := q
      refine ⟨q0, q1, by omega, by omega, fun i hi hm => ?_⟩
      rcases Nat.eq_or_lt_of_le hi with rfl | hi
      · exact e
      · exact q4 i (by omega) hm
    · rw [if_neg (by simp)]
      refine Good.step (P.mem (by omega)) (P.mem (by omega)) (fun _ => ?_) fun e2 => ?_
      · rw [if_pos rfl]
        exact ⟨rfl, rfl, Nat.le_refl _, Nat.le_add_right _ _, fun i h1 h2 => absurd h2 (by show ¬ i < a; omega)⟩
      · have := S.tot _ _ (P.mem (i := a) (by omega)) (P.mem (i := a - 1) (by omega)) (P.ne (by omega) (by omega) (by omega)) e
        rw [show g p (a - 1) = p.getD (a - 1) 0 from rfl, show g p a = p.getD a 0 from rfl, e2] at this
        cases this
theorem rev_PP {p : Array Nat} (P : PP n p) (i j : Nat) : PP n (kas_rev p i j) := ⟨(kas_rev_size _ _).trans P.sz, (mirror_perm _ _ _ _).trans P.pm⟩
theorem bub_PP {p : Array Nat} (P : PP n p) (k d : Nat) : PP n (bubble p k d) := ⟨(bubble_size _ _ _).trans P.sz, (bubble_perm _ _ _).trans P.pm⟩
theorem g_rev {p : Array Nat} {m k : Nat} (hm : m ≤ p.size) : g (kas_rev p 0 m) k = if k < m then g p (m - 1 - k) else g p k := by
  have e := getElem?_mirror_all (xs := p) (i := 0) (j := m) hm k
  rw [g_def, g_def, g_def, kas_rev, e]
  split
  · next h => rw [if_pos (by omega)]; congr 2; omega
  · next h => rw [if_neg (by omega)]
theorem count_good (S : SO n lt) {p : Array Nat} (P : PP n p) (h2 : 2 ≤ n) : Good n lt (kas_count n p) (fun r => PP n r.2 ∧ 1 ≤ r.1 ∧ r.1 ≤ n ∧ Srt lt r.2 r.1) := by
  refine Good.bind (Good.mono (fun m q => ?_) (asc_good S P (n - 1) 1 (Nat.le_refl _) (by omega)))
  obtain ⟨q1, q2, q3, q4⟩ := q
  have srt : Srt lt p m := srt_adj S fun i hi => by have := q3 (i + 1) (by omega) hi; rwa [Nat.add_sub_cancel] at this
  by_cases hm : m = n
  · subst hm
    simp only [beq_self_eq_true, if_true]
    exact ⟨P, q1, Nat.le_refl _, srt⟩
  · have : (m == n) = false := by simpa using hm
    simp only [this, Bool.false_eq_true, if_false]
    by_cases h1 : m > 1
    · rw [if_pos h1]
      refine Good.step (P.mem (by omega)) (P.mem (by omega)) (fun _ => ?_) fun e => ?_
      · rw [if_pos rfl]
        exact ⟨P, q1, by omega, srt⟩
      · have := srt 0 (m - 1) (by omega) (by omega)
        rw [show g p 0 = p.getD 0 0 from rfl, show g p (m - 1) = p.getD (m - 1) 0 from rfl, e] at this
        cases this
    · rw [if_neg h1]
      obtain rfl : m = 1 := by omega
      have e1 := q4 (by omega)
      refine Good.bind (Good.mono (fun r q => ?_) (desc_good S P (n - (1 + 1)) (1 + 1) (by omega) (by omega)))
      obtain ⟨r1, r2, r3, r4, r5⟩ := q
      rw [r2, r1, if_neg (by omega)]
      have P' := rev_PP P 0 r.2.1
      refine Good.bind (Good.mono (fun k q => ?_) (asc_good S P' (n - r.2.1) r.2.1 (by omega) (by omega)))
      obtain ⟨s1, s2, s3, s4⟩ := q
      refine ⟨P', by show 1 ≤ k; omega, by show k ≤ n; omega, srt_adj S fun i hi => ?_⟩
      have hi : i + 1 < k := hi
      show lt (g (kas_rev p 0 r.2.1) i) (g (kas_rev p 0 r.2.1) (i + 1)) = true
      rcases Nat.lt_or_ge (i + 1) r.2.1 with h | h
      · rw [g_rev (by rw [P.sz]; omega), g_rev (by rw [P.sz]; omega), if_pos (by omega), if_pos h]
        rcases Nat.eq_or_lt_of_le (show 1 ≤ r.2.1 - 1 - i by omega) with z | z
        · have z2 : r.2.1 - 1 - (i + 1) = 0 := by omega
          rw [← z, z2]; exact e1
        · have := r5 (r.2.1 - 1 - i) (by omega) (by omega)
          rwa [show r.2.1 - 1 - i - 1 = r.2.1 - 1 - (i + 1) by omega] at this
      · have := s3 (i + 1) h hi
        rwa [Nat.add_sub_cancel] at this
theorem place_good (S : SO n lt) {p : Array Nat} (P : PP n p) {k : Nat} (hk : k < n) (srt : Srt lt p k) : ∀ (f l r : Nat), r ≤ l + f → l ≤ r → r ≤ k → (∀ i, i < l → lt (g p i) (g p k) = true) → (∀ i, r ≤ i → i < k → lt (g p k) (g p i) = true) →
    Good n lt (kas_place p k f l r) (fun x => x ≤ k ∧ (∀ i, i < x → lt (g p i) (g p k) = true) ∧ ∀ i, x ≤ i → i < k → lt (g p k) (g p i) = true)
  | 0, l, r, h1, h2, h3, a, b => ⟨by omega, a, fun i hi => b i (by omega)⟩
  | f + 1, l, r, h1, h2, h3, a, b => by
    unfold kas_place
    by_cases hlr : l ≥ r
    · rw [if_pos hlr]
      exact ⟨by omega, a, fun i hi => b i (by omega)⟩
    · rw [if_neg hlr]
      refine Good.step (P.mem hk) (P.mem (by omega)) (fun e => ?_) fun e => ?_
      · rw [if_pos rfl]
        refine place_good S P hk srt f l ((l + r) / 2) (by omega) (by omega) (by omega) a fun i hi hik => ?_
        rcases Nat.eq_or_lt_of_le hi with rfl | hi
        · exact e
        · exact S.tr _ _ _ e (srt _ _ hi hik)
      · rw [if_neg (by simp)]
        have e' : lt (g p ((l + r) / 2)) (g p k) = true := S.tot _ _ (P.mem hk) (P.mem (by omega)) (P.ne hk (by omega) (by omega)) e
        refine place_good S P hk srt f ((l + r) / 2 + 1) r (by omega) (by omega) h3 (fun i hi => ?_) b
        rcases Nat.eq_or_lt_of_le (Nat.le_of_lt_succ hi) with rfl | hi
        · exact e'
        · exact S.tr _ _ _ (srt _ _ hi (by omega)) e'
theorem g_bub {p : Array Nat} {k d x : Nat} (hk : k < p.size) (hd : d ≤ k) : g (bubble p k d) x = if x = k - d then g p k else if k - d < x ∧ x ≤ k then g p (x - 1) else g p x := by
  have e := getElem?_bubble (xs := p) hk d hd x
  rw [g_def, g_def, g_def, g_def, e]
  split
  · rfl
  · split
    · rfl
    · rfl
theorem bin_good (S : SO n lt) : ∀ (f : Nat) {p : Array Nat} (P : PP n p) (k : Nat), k + f ≤ n → Srt lt p k → Good n lt (kas_bin f p k) (fun q => PP n q ∧ Srt lt q (k + f))
  | 0, _, P, _, _, srt => ⟨P, srt⟩
  | f + 1, p, P, k, hn, srt => by
    refine Good.bind (Good.mono (fun x q => ?_) (place_good S P (by omega) srt k 0 k (by omega) (Nat.zero_le _) (Nat.le_refl _) (fun i hi => absurd hi (by omega)) fun i h1 h2 => absurd h2 (by omega)))
    obtain ⟨hx, a, b⟩ := q
    have hk : k < p.size := by rw [P.sz]; omega
    have := bin_good S f (bub_PP P k (k - x)) (k + 1) (by omega) (fun i j hij hj => by
      have e : k - (k - x) = x := by omega
      rw [g_bub hk (by omega), g_bub hk (by omega), e]
      by_cases h1 : i = x
      · rw [if_pos h1, if_neg (by omega), if_pos (by omega)]
        exact b _ (by omega) (by omega)
      · rw [if_neg h1]
        by_cases h2 : x < i ∧ i ≤ k
        · rw [if_pos h2, if_neg (by omega), if_pos (by omega)]
          exact srt _ _ (by omega) (by omega)
        · rw [if_neg h2]
          by_cases h3 : j = x
          · rw [if_pos h3]; exact a _ (by omega)
          · rw [if_neg h3]
            by_cases h4 : x < j ∧ j ≤ k
            · rw [if_pos h4]
              exact srt _ _ (by omega) (by omega)
            · rw [if_neg h4]; exact srt _ _ hij (by omega))
    rwa [show k + 1 + f = k + (f + 1) by omega] at this
theorem sort_good (S : SO n lt) (h2 : 2 ≤ n) : Good n lt (kas_sort n) (fun q => PP n q ∧ Srt lt q n) := by
  have P0 : PP n (List.toArray (List.range n)) := ⟨by simp, Array.Perm.refl _⟩
  refine Good.bind (Good.mono (fun r q => ?_) (count_good S P0 h2))
  obtain ⟨P, h1, hn, srt⟩ := q
  by_cases h : r.1 < n
  · rw [if_pos h]
    have e : max r.1 1 = r.1 := by omega
    rw [e]
    have := bin_good S (n - r.1) P r.1 (by omega) srt
    rwa [show r.1 + (n - r.1) = n by omega] at this
  · rw [if_neg h]
    have e : r.1 = n := by omega
    exact ⟨P, e ▸ srt⟩
end
end
section
open PySem PySem.W PyProof.Rows PySem.Calls PySem.SeqAt
theorem anew_Mlam : True := by w_top off; trivial
section
variable {prog : Program} {w : World} {p : Program} {loose : List Str} {mean : ExcName → Option Value} {mg mb : Str → Option Value} {hb : Heap} {K : Frag}
/-- a lambda, entered; the base is the heap at the call -/
theorem enterE {A : Around} {s : Shared} {R : Result → Shared → Prop} {name qual : Str} {params : Arguments} {body : PySem.Expr} {scope : Scope} {pm ctv : Value} {c' f : Addr} {args : Args} {binds : List (Str × Value)}
    (X : K.In hb) (T : Top p loose mean mg mb hb) (hst : hb.StaysIn s.heap)
    (ho : s.heap.get? f = some (kla_obj name qual params body scope [] pm c' ctv)) (hcd : s.heap.CodeRec (.ref c') qual) (hroom : A.depth < recursionLimit)
    (hbind : bindArgs (kla_fn name qual params body scope [] pm (.ref c') ctv) args = pure binds) (hloc : ∀ y ∈ binds, scope.names.lookup y.1 = some .local)
    (hcell : ∀ x ∈ scope.names, x.2 ≠ .cell) (hco : scope.isCoroutine = false) (hgen : scope.isGenerator = false) (hk : scope.kind = .function)
    (h : ∀ L' h₁, Fr s.heap L' h₁ (fun y => binds.reverse.lookup y) → News s.heap L' h₁ [] → K.In s.heap → Top p loose mean mg mb s.heap →
      wpAny (model prog w) (A.deeper (envX qual scope L' f (.ref c') [])) (eval body (envX qual scope L' f (.ref c') []))
        (fun v s' => R (.ok (.ret v)) s') (fun _ _ => False) { s with heap := h₁, toks := s.toks + binds.length }) :
    codeAny (model prog w) A (.call (.ref f) args) R s := by
  refine kla_callFunE hroom ho rfl hco hgen rfl hcd ?_
  rw [hbind]
  refine wpAny_pure (wpAny_newFunctionEnv hcell hloc (fun h₁ hns hsb => ⟨((T.nolimit).keeps hst).fresh _ hsb, ?_⟩) hk)
  show codeAny _ _ (.expr body (envX qual scope s.heap.objs.size f (.ref c') [])) _ _
  have hk₁ : ∀ b o, s.heap.get? b = some o → h₁.get? b = some o := fun b o e => hsb.extBut b o (Nat.ne_of_lt (Heap.lt_size e)) (Heap.get?_push_of_some _ e)
  exact kla_codeExpr (wpAny_mono (h s.heap.objs.size h₁ ⟨hns, hk₁, Nat.le_refl _⟩ News.nil (X.keeps hst) (T.keeps hst)) (fun _ _ q => q) fun _ _ q => q.elim)
end
/-- what a way is sorted by -/
def keyS (u : List Str) : List Str := match u with
  | [x] => [x]
  | [x, y] => [x ++ Str.ofString "/", y]
  | _ => []
section
variable {prog : Program} {w : World} {A : Around} {B : Heap} {L kS : Addr} {m : Str → Option Value} {f : Value}
/-- the call of the key, by what it needs of the heap -/
def LamOk (prog : Program) (w : World) (A : Around) (B : Heap) (core : List (Addr × Obj)) (f : Value) : Prop :=
  ∀ (s : Shared) (Q E : Value → Shared → Prop) (a : Addr) (vs : List Value) (u : List Str) (n : Nat), (∀ q ∈ core, s.heap.get? q.1 = some q.2) → B.StaysIn s.heap → s.heap.get? a = some (PySem.W.listOf vs.toArray n) → StrsAre vs u → okW u = true →
    (∀ h' tk' r vs' k, s.heap.StaysIn h' → s.heap.get? r = none → h'.get? r = some (PySem.W.listOf vs'.toArray k) → StrsAre vs' (keyS u) → Q (.ref r) { s with heap := h', toks := tk' }) → wpAny (model prog w) A (call f [.ref a]) Q E s
theorem keys_all {core : List (Addr × Obj)} (hlam : LamOk prog w A B core f) {Fin : List Value → Nat → Shared → Prop} (hcore : ∀ q ∈ core, q.1 ≠ kS) : ∀ (r : List Value) (us : List (List Str)) (ks : List Value) (dn : List (List Str)) (e : Nat) (s : Shared) (nws : List (Addr × Obj)),
    Fr B L s.heap m → News B L s.heap ((kS, seqObj "list" (List.toArray ks) e) :: (core ++ nws)) → (∀ q ∈ nws, q.1 ∉ kS :: core.map (·.1)) → LR (fun a o => (a, o) ∈ nws) r us → (∀ u ∈ us, okW u = true) → LR (fun a o => (a, o) ∈ nws) ks (dn.map keyS) →
    (∀ ks' e' s' nws', (∃ h' tk', s' = { s with heap := h', toks := tk' }) → Fr B L s'.heap m → News B L s'.heap ((kS, seqObj "list" (List.toArray ks') e') :: (core ++ nws')) → (∀ q ∈ nws', q.1 ∉ kS :: core.map (·.1)) → (∀ q ∈ nws, q ∈ nws') → LR (fun a o => (a, o) ∈ nws') ks' ((dn ++ us).map keyS) → Fin ks' e' s') →
    KatKeys prog w A B L m kS f Fin r ks e s
  | _, _, ks, dn, e, s, nws, F, N, hx, .nil, _, H, fin => KatKeys.nil (fin ks e s nws ⟨_, _, rfl⟩ F N hx (fun _ q => q) (by rwa [List.append_nil]))
  | _, _, ks, dn, e, s, nws, F, N, hx, .cons (a := a) (vs := vs) (n := n) (w := u) (r := r) (ws := us) ha hvs hr, ok, H, fin => by
    refine KatKeys.cons (hlam s _ _ a vs u n (fun q hq => (N q (.tail _ (List.mem_append_left _ hq))).1) F.keep (N _ (.tail _ (List.mem_append_right _ ha))).1 hvs (ok u (.head _)) fun h' tk' x vs' k hs hx0 hx1 hk => ?_)
    have F1 := F.keeps hs
    have N1 := News.grown N hs
    obtain ⟨nws', N2, sub, hx2, all⟩ := regroup (cells := (kS, seqObj "list" (List.toArray ks) e) :: core) F1 N1 (by simpa using hx)
    have hxm : (x, PySem.W.listOf vs'.toArray k) ∈ nws' := by
      refine all x _ hx1 ?_ ?_ ?_
      · cases z : B.get? x with
        | none => rfl
        | some o => rw [F.keep x o z] at hx0; cases hx0
      · rintro rfl
        obtain ⟨o, _, _, z, _⟩ := F.ns
        rw [z] at hx0; cases hx0
      · intro q
        obtain ⟨p, hp, rfl⟩ := List.mem_map.mp q
        have z := (N p (by rcases List.mem_cons.mp hp with rfl | hp; · exact .head _
                           · exact .tail _ (List.mem_append_left _ hp))).1
        rw [z] at hx0; cases hx0
    have ne : ∀ q ∈ core ++ nws', q.1 ≠ kS := fun q hq => by
      rcases List.mem_append.mp hq with z | z
      · exact hcore q z
      · exact fun e => hx2 q z (by rw [e]; simp)
    refine KatBack.intro F1 (show News B L h' ((kS, seqObj "list" (List.toArray ks) e) :: (core ++ nws')) from N2) (UpdF.head ne) fun h2 c F3 N3 => ?_
    refine keys_all hlam hcore r us (ks ++ [.ref x]) (dn ++ [u]) c { s with heap := h2, toks := tk' } nws' F3 N3 (by simpa using hx2) (LR.mono (fun a o q => sub _ q) hr) (fun v hv => ok v (.tail _ hv)) ?_ fun ks' e' s' nws2 hs' F' N' hx' sub' H' => ?_
    · rw [List.map_append]
      exact LR.snoc (LR.mono (fun a o q => sub _ q) H) hxm hk
    · obtain ⟨h4, tk4, rfl⟩ := hs'
      exact fin ks' e' _ nws2 ⟨h4, tk4, rfl⟩ F' N' hx' (fun q hq => sub' q (sub q hq)) (by rwa [List.append_assoc] at H')
end
section
variable {prog : Program} {w : World} {A : Around} {E : Value → Shared → Prop} {s : Shared} {B : Heap} {L : Addr} {m : Str → Option Value}
theorem perm_get {n : Nat} {α : Type} {d : α} {xs : List α} (hl : xs.length = n) {p : Array Nat} (P : PP n p) : (p.toList.map fun i => xs.getD i d).Perm xs := by
  have h1 : (p.toList.map fun i => xs.getD i d).Perm ((List.range n).map fun i => xs.getD i d) := by
    have := Array.perm_iff_toList_perm.mp P.pm
    exact List.Perm.map _ (by simpa using this)
  have h2 : ((List.range n).map fun i => xs.getD i d) = xs := by
    apply List.ext_getElem
    · simp [hl]
    · intro i h1 h2
      simp [h2]
  rwa [h2] at h1
theorem lr_pick {R : Addr → Obj → Prop} {ys : List Value} {us : List (List Str)} (H : LR R ys us) : ∀ {l : List Nat}, (∀ i ∈ l, i < us.length) → LR R (l.map fun i => ys.getD i .none) (l.map fun i => us.getD i [])
  | [], _ => .nil
  | i :: l, h => by
    have hi := h i (.head _)
    obtain ⟨a, vs, n, e, r, s⟩ := H.at (i := i) (w := us[i]) (by simp [hi])
    have e1 : ys.getD i .none = .ref a := by rw [List.getD_eq_getElem?_getD, e]; rfl
    have e2 : us.getD i [] = us[i] := by simp [hi]
    show LR R (ys.getD i .none :: _) (us.getD i [] :: _)
    rw [e1, e2]
    exact .cons r s (lr_pick H fun j hj => h j (.tail _ hj))
theorem sorted_ways {core nws : List (Addr × Obj)} {l fq : Addr} {ys : List Value} {us : List (List Str)} {Q : Value → Shared → Prop} (F : Fr B L s.heap m) (N : News B L s.heap (core ++ nws)) (hx : ∀ q ∈ nws, q.1 ∉ core.map (·.1)) (hl : s.heap.IsList l ys.toArray)
    (H : LR (fun a o => (a, o) ∈ nws) ys us) (ok : ∀ u ∈ us, okW u = true) (h2 : 2 ≤ ys.length) (h64 : ys.length < 64) (hlam : ∀ D e, LamOk prog w A.in1.in1 B ((D, seqObj "list" #[] e) :: core) (.ref fq)) (hnd : (us.map keyS).Nodup) (hu : A.in1.in1.units < cLine)
    (h : ∀ D h' tk c out us' nws', Fr B L h' m → News B L h' ((D, PySem.W.listOf (List.toArray out) c) :: (core ++ nws')) → (∀ q ∈ nws', q.1 ∉ D :: core.map (·.1)) → (∀ q ∈ core, q.1 ≠ D) → (∀ q ∈ nws, q ∈ nws') → LR (fun a o => (a, o) ∈ nws') out us' → us'.Perm us → us'.Pairwise (fun x y => ltStrs (keyS x) (keyS y) = true) →
      Q (.ref D) { s with heap := h', toks := tk }) :
    wpAny (model prog w) A (call (.builtin "sorted") [.ref l] [(Str.ofString "key", .ref fq)]) Q E s := by
  have hlen := H.length
  refine kat_sortedK (b := false) (f := .ref fq) F N hl h2 h64 (ksk_s1 _ _) (fun x => ksk_l1 _ _) (fun x => ksk_t1 _ _) fun D kS e1 h' F1 N1 hDk hD => ?_
  have hDn : ∀ q ∈ core ++ nws, q.1 ≠ D := fun q hq e => Nat.lt_irrefl _ (show D < D from e ▸ hD q hq)
  have hkn : ∀ q ∈ core ++ nws, q.1 ≠ kS := fun q hq e => Nat.lt_irrefl _ (Nat.lt_trans (show kS < D from e ▸ hD q hq) hDk)
  refine keys_all (core := (D, seqObj "list" #[] e1) :: core) (hlam D e1) (fun q hq => ?_) ys us [] [] 0 { s with heap := h' } nws F1 N1 (fun q hq => ?_) H ok .nil fun ks' e' s' nws' hs' F2 N2 hx2 sub H2 => ?_
  · rcases List.mem_cons.mp hq with rfl | hq
    · exact Nat.ne_of_lt hDk
    · exact hkn q (List.mem_append_left _ hq)
  · intro z
    simp only [List.map_cons, List.mem_cons] at z
    rcases z with z | z | z
    · exact hkn q (List.mem_append_right _ hq) z
    · exact hDn q (List.mem_append_right _ hq) z
    · exact hx q hq z
  · obtain ⟨h2', tk2, rfl⟩ := hs'
    dsimp only at F2 N2
    rw [List.nil_append] at H2
    have G2 : LR (fun a o => h2'.get? a = some o) ks' (us.map keyS) := LR.mono (fun a o q => (N2 _ (.tail _ (List.mem_append_right _ q))).1) H2
    have hl2 : ks'.length = ys.length := by rw [H2.length, List.length_map, hlen]
    refine kind_lists G2 (by omega) ?_
    have key : ∀ i, i < ys.length → ∃ a vs n, ks'.getD i .none = .ref a ∧ h2'.get? a = some (PySem.W.listOf vs.toArray n) ∧ StrsAre vs ((us.map keyS).getD i []) := fun i hi => by
      have hi' : i < (us.map keyS).length := by rw [List.length_map]; omega
      obtain ⟨a, vs, n, e, r, s⟩ := G2.at (i := i) (w := (us.map keyS)[i]) (List.getElem?_eq_getElem hi')
      exact ⟨a, vs, n, by rw [List.getD_eq_getElem?_getD, e]; rfl, r, by rw [List.getD_eq_getElem?_getD, List.getElem?_eq_getElem hi']; exact s⟩
    have S : SO ys.length (fun i j => ltStrs ((us.map keyS).getD i []) ((us.map keyS).getD j [])) := by
      refine ⟨fun i j k => ltStrs_tr _ _ _, fun i j hi hj hij e => ltStrs_tot _ _ (fun q => ?_) e, fun i j => ltStrs_asy _ _⟩
      have hi' : i < (us.map keyS).length := by rw [List.length_map]; omega
      have hj' : j < (us.map keyS).length := by rw [List.length_map]; omega
      rw [List.getD_eq_getElem?_getD, List.getElem?_eq_getElem hi', List.getD_eq_getElem?_getD, List.getElem?_eq_getElem hj'] at q
      have pw := List.pairwise_iff_getElem.mp hnd
      rcases Nat.lt_or_gt_of_ne hij with z | z
      · exact pw i j hi' hj' z q
      · exact pw j i hj' hi' z q.symm
    refine Good.wp (lt := fun i j => ltStrs ((us.map keyS).getD i []) ((us.map keyS).getD j [])) (fun i j C hi hj hC => ?_) (fun p hp => ?_) (sort_good S h2)
    · unfold kas_ask
      obtain ⟨a, vs, n, e, r, sx⟩ := key i hi
      obtain ⟨b, vs2, n2, e2, r2, sy⟩ := key j hj
      show wpAny _ _ (keyLt' oneType' (ks'.getD i .none) (ks'.getD j .none)) _ _ _
      rw [e, e2]
      exact lt_lists r r2 sx sy hu hC
    · obtain ⟨P, srt⟩ := hp
      have ne : ∀ q ∈ ((D, seqObj "list" #[] e1) :: core) ++ nws', q.1 ≠ kS := fun q hq => by
        rcases List.mem_append.mp hq with z | z
        · rcases List.mem_cons.mp z with rfl | z
          · exact Nat.ne_of_lt hDk
          · exact hkn q (List.mem_append_left _ z)
        · exact fun e => hx2 q z (by rw [e]; simp)
      refine KatFin.intro F2 N2 (UpdF.head ne) fun h3 c F3 N3 => ?_
      have N3' : News B L h3 ((D, seqObj "list" #[] e1) :: (core ++ nws')) := fun q hq => N3 q (.tail _ hq)
      have ne2 : ∀ q ∈ core ++ nws', q.1 ≠ D := fun q hq => by
        rcases List.mem_append.mp hq with z | z
        · exact hDn q (List.mem_append_left _ z)
        · exact fun e => hx2 q z (by rw [e]; simp)
      refine KasFin.intro F3 N3' (UpdF.head ne2) fun h4 c2 F4 N4 => ?_
      have hin : ∀ i ∈ p.toList, i < us.length := fun i hi => by
        have := (Array.perm_iff_toList_perm.mp P.pm).mem_iff.mp hi
        have : i < ys.length := by simpa using this
        omega
      refine h D h4 _ c2 _ (p.toList.map fun i => us.getD i []) nws' F4 N4 (fun q hq z => ?_) (fun q hq => hDn q (List.mem_append_left _ hq)) sub (lr_pick (LR.mono (fun a o q => sub _ q) H) hin) (perm_get hlen.symm P) ?_
      · rcases List.mem_cons.mp z with z | z
        · exact ne2 q (List.mem_append_right _ hq) z
        · exact hx2 q hq (by simp only [List.map_cons, List.mem_cons]; exact .inr (.inr z))
      · rw [List.pairwise_map, List.pairwise_iff_getElem]
        intro i j hi hj hij
        have hi' : i < p.size := by simpa using hi
        have hj' : j < p.size := by simpa using hj
        have q := srt i j hij (by rw [← P.sz]; exact hj')
        rw [g_eq hi', g_eq hj'] at q
        have m1 : p[i] < us.length := hin _ (by simp)
        have m2 : p[j] < us.length := hin _ (by simp)
        simpa [m1, m2] using q
end
end
section
open PySem PySem.W PyProof.Rows PySem.Calls PySem.SeqAt
theorem anew_Mpure : True := by w_top off; trivial
theorem firsts_sub (P : List (List Str)) (n : Nat) (hn : n ≤ P.length) : ∀ w ∈ firsts P n, w ∈ P.take n := fun w hw => by
  obtain ⟨k, hk, rfl⟩ := List.mem_map.mp hw
  obtain ⟨h1, h2⟩ := List.mem_filter.mp hk
  have h1 := List.mem_range.mp h1
  have hl : k < P.length := by omega
  have e : P.getD k [] = P[k] := by simp [hl]
  rw [e]
  exact List.mem_iff_getElem.mpr ⟨k, by rw [List.length_take]; omega, by simp⟩
theorem firsts_nodup (P : List (List Str)) (n : Nat) (hn : n ≤ P.length) : (firsts P n).Nodup := by
  induction n with
  | zero => exact List.nodup_nil
  | succ n ih =>
    have hi : P[n]? = some (P[n]'(by omega)) := List.getElem?_eq_getElem (by omega)
    by_cases h : P[n]'(by omega) ∈ P.take n
    · rw [firsts_out hi h]; exact ih (by omega)
    · rw [firsts_in hi h, List.nodup_append]
      refine ⟨ih (by omega), by simp, fun a ha b hb e => ?_⟩
      rw [List.mem_singleton.mp hb] at e
      exact h (e ▸ firsts_sub P n (by omega) a ha)
theorem firsts_all (P : List (List Str)) (n : Nat) (hn : n ≤ P.length) : ∀ w ∈ P.take n, w ∈ firsts P n := by
  induction n with
  | zero => intro w hw; simp at hw
  | succ n ih =>
    intro w hw
    have hi : P[n]? = some (P[n]'(by omega)) := List.getElem?_eq_getElem (by omega)
    rw [List.take_add_one, hi] at hw
    by_cases h : P[n]'(by omega) ∈ P.take n
    · rw [firsts_out hi h]
      rcases List.mem_append.mp hw with q | q
      · exact ih (by omega) w q
      · rw [List.mem_singleton.mp q]; exact ih (by omega) _ h
    · rw [firsts_in hi h]
      rcases List.mem_append.mp hw with q | q
      · exact List.mem_append_left _ (ih (by omega) w q)
      · rw [List.mem_singleton.mp q]; exact List.mem_append_right _ (.head _)
theorem two_ways {j : Nat} {nums r : List Int} (h : nums = r ++ [0, 25, 2, 3, 13, 6]) : 2 ≤ (firsts (nums.map (wayS j)) (nums.map (wayS j)).length).length := by
  have m0 : wayS j 0 ∈ firsts (nums.map (wayS j)) (nums.map (wayS j)).length := firsts_all _ _ (Nat.le_refl _) _ (by rw [List.take_length]; exact List.mem_map.mpr ⟨0, by rw [h]; simp, rfl⟩)
  have m1 : wayS j 25 ∈ firsts (nums.map (wayS j)) (nums.map (wayS j)).length := firsts_all _ _ (Nat.le_refl _) _ (by rw [List.take_length]; exact List.mem_map.mpr ⟨25, by rw [h]; simp, rfl⟩)
  have hne : wayS j 0 ≠ wayS j 25 := fun e => by
    have := congrArg List.length e
    simp [wayS] at this
  match hh : firsts (nums.map (wayS j)) (nums.map (wayS j)).length, m0, m1 with
  | [], m0, _ => nomatch m0
  | [a], m0, m1 => exact absurd ((List.mem_singleton.mp m0).trans (List.mem_singleton.mp m1).symm) hne
  | _ :: _ :: _, _, _ => simp
theorem keyS_inj {j : Nat} (h : j < 4) : ∀ a ∈ allW j, ∀ b ∈ allW j, keyS a = keyS b → a = b := by
  match j, h with
  | 0, _ => decide +kernel
  | 1, _ => decide +kernel
  | 2, _ => decide +kernel
  | 3, _ => decide +kernel
theorem nodup_map {α β : Type} {f : α → β} : ∀ {l : List α}, (∀ a ∈ l, ∀ b ∈ l, f a = f b → a = b) → l.Nodup → (l.map f).Nodup
  | [], _, _ => List.nodup_nil
  | a :: l, hf, hn => by
    rw [List.map_cons, List.nodup_cons]
    rw [List.nodup_cons] at hn
    refine ⟨fun h => ?_, nodup_map (fun x hx y hy => hf x (.tail _ hx) y (.tail _ hy)) hn.2⟩
    obtain ⟨b, hb, e⟩ := List.mem_map.mp h
    exact hn.1 (hf b (.tail _ hb) a (.head _) e ▸ hb)
theorem keys_nodup {j : Nat} (h : j < 4) {W : List (List Str)} (hw : ∀ w ∈ W, w ∈ allW j) (nd : W.Nodup) : (W.map keyS).Nodup :=
  nodup_map (fun a ha b hb => keyS_inj h a (hw a ha) b (hw b hb)) nd
theorem paths_ok {j : Nat} (h : j < 4) : ∀ w ∈ allW j, PyData.strOk (pathS w) = true := by
  match j, h with
  | 0, _ => decide +kernel
  | 1, _ => decide +kernel
  | 2, _ => decide +kernel
  | 3, _ => decide +kernel
def pathLt (a b : List Str) : Bool := decide ((pathS a).cps.toList < (pathS b).cps.toList)
/-- the paths' order is the order of the keys -/
theorem key_path {j : Nat} (h : j < 4) : ∀ a ∈ allW j, ∀ b ∈ allW j, ltStrs (keyS a) (keyS b) = pathLt a b := by
  match j, h with
  | 0, _ => decide +kernel
  | 1, _ => decide +kernel
  | 2, _ => decide +kernel
  | 3, _ => decide +kernel
theorem path_inj {j : Nat} (h : j < 4) : ∀ a ∈ allW j, ∀ b ∈ allW j, pathS a = pathS b → a = b := by
  match j, h with
  | 0, _ => decide +kernel
  | 1, _ => decide +kernel
  | 2, _ => decide +kernel
  | 3, _ => decide +kernel
/-- where two ways turn their order -/
theorem turned_is {j : Nat} (h : j < 4) : ∀ a ∈ allW j, ∀ b ∈ allW j, turnedS a b = (pathLt b a && ltStrs a b) := by
  match j, h with
  | 0, _ => decide +kernel
  | 1, _ => decide +kernel
  | 2, _ => decide +kernel
  | 3, _ => decide +kernel
theorem texts_due {j : Nat} (hj : j < 4) {W ws : List (List Str)} {xs : List Str} (hw : ∀ w ∈ W, w ∈ allW j) (pm : xs.Perm (W.map pathS)) (so : xs.Pairwise fun x y => ¬ y.cps.toList < x.cps.toList) (pm2 : ws.Perm W)
    (so2 : ws.Pairwise fun x y => ltStrs (keyS x) (keyS y) = true) : xs = ws.map pathS := by
  have hin : ∀ w ∈ ws, w ∈ allW j := fun w h => hw w (pm2.mem_iff.mp h)
  refine List.Perm.eq_of_pairwise (le := fun x y : Str => ¬ y.cps.toList < x.cps.toList) (fun a b _ _ h1 h2 => ?_) so ?_ (pm.trans (pm2.map pathS).symm)
  · rcases List.le_iff_lt_or_eq.mp (List.not_lt.mp h1) with q | q
    · exact absurd q h2
    · exact str_eq q
  · rw [List.pairwise_map]
    refine List.Pairwise.imp_of_mem (fun {a b} ha hb h => ?_) so2
    rw [key_path hj a (hin a ha) b (hin b hb)] at h
    exact List.lt_asymm (of_decide_eq_true h)
def cntA (rk : List Int) (i : Nat) : Nat := ((List.range (rk.take i).length).filter fun j => decide (rk.getD j 0 > rk.getD i 0)).length
theorem cntA_le (rk : List Int) (i : Nat) : cntA rk i ≤ rk.length := Nat.le_trans (List.length_filter_le _ _) (by simp; omega)
def cntB (W : List (List Str)) (i : Nat) : Nat := ((List.range W.length).filter fun j => turnedS (W.getD i []) (W.getD j [])).length
theorem cntB_le (W : List (List Str)) (i : Nat) : cntB W i ≤ W.length := Nat.le_trans (List.length_filter_le _ _) (by simp)
theorem total_le {cnt : Nat → Nat} {m : Nat} (h : ∀ i, cnt i ≤ m) : ∀ n, total cnt n ≤ n * m
  | 0 => by simp [total]
  | n + 1 => by rw [total_succ, Nat.succ_mul]; have := total_le h n; have := h n; omega
theorem range_getD {α : Type} (d : α) (l : List α) : (List.range l.length).map (fun i => l.getD i d) = l := by
  apply List.ext_getElem
  · simp
  · intro i h1 h2; simp [h2]
theorem cntB_eq (W : List (List Str)) (i : Nat) : cntB W i = W.countP (turnedS (W.getD i [])) := by
  unfold cntB
  have h : W.countP (turnedS (W.getD i [])) = ((List.range W.length).map (fun k => W.getD k [])).countP (turnedS (W.getD i [])) := by rw [range_getD]
  rw [h, List.countP_map, List.countP_eq_length_filter]
  rfl
theorem totalB (W : List (List Str)) : total (cntB W) W.length = (W.map fun a => W.countP (turnedS a)).sum := by
  unfold total
  have h : (W.map fun a => W.countP (turnedS a)) = ((List.range W.length).map (fun k => W.getD k [])).map fun a => W.countP (turnedS a) := by rw [range_getD]
  rw [h, List.map_map]
  exact congrArg List.sum (List.map_congr_left fun i _ => cntB_eq W i)
theorem totalB_perm {W V : List (List Str)} (h : W.Perm V) : total (cntB W) W.length = total (cntB V) V.length := by
  rw [totalB, totalB]
  refine List.Perm.sum_nat ?_
  have e : (W.map fun a => W.countP (turnedS a)) = W.map fun a => V.countP (turnedS a) := List.map_congr_left fun a _ => h.countP_eq _
  rw [e]
  exact h.map _
theorem idxOf_map {f : List Str → Str} {a : List Str} : ∀ {l : List (List Str)}, (∀ b ∈ l, f b = f a → b = a) → (l.map f).idxOf (f a) = l.idxOf a
  | [], _ => rfl
  | b :: l, h => by
    rw [List.map_cons, List.idxOf_cons, List.idxOf_cons]
    have ih := idxOf_map (f := f) (a := a) (l := l) fun c hc => h c (.tail _ hc)
    by_cases e : b = a
    · subst e; simp
    · have e2 : ¬ f b = f a := fun q => e (h b (.head _) q)
      have h1 : (b == a) = false := by simpa using e
      have h2 : (f b == f a) = false := by simpa using e2
      rw [h1, h2, ih]
theorem idx_lt {ws : List (List Str)} (nd : ws.Nodup) (so : ws.Pairwise fun x y => ltStrs y x = false) {a b : List Str} (ha : a ∈ ws) (hb : b ∈ ws) (hab : a ≠ b) : ltStrs a b = decide (ws.idxOf a < ws.idxOf b) := by
  have h1 : ws.idxOf a < ws.length := List.idxOf_lt_length_iff.mpr ha
  have h2 : ws.idxOf b < ws.length := List.idxOf_lt_length_iff.mpr hb
  have g1 : ws[ws.idxOf a] = a := List.getElem_idxOf h1
  have g2 : ws[ws.idxOf b] = b := List.getElem_idxOf h2
  have pw := List.pairwise_iff_getElem.mp so
  rcases Nat.lt_trichotomy (ws.idxOf a) (ws.idxOf b) with h | h | h
  · have := pw _ _ h1 h2 h
    rw [g1, g2] at this
    rw [decide_eq_true h]
    exact ltStrs_tot _ _ (fun q => hab q.symm) this
  · exfalso
    apply hab
    rw [← g1, ← g2]
    congr 1
  · have := pw _ _ h2 h1 h
    rw [g1, g2] at this
    rw [this, decide_eq_false (by omega)]
theorem final_eq {j : Nat} (hj : j < 4) {W ws9 ws10 : List (List Str)} {xs7 : List Str} {rk : List Int} (hw : ∀ w ∈ W, w ∈ allW j) (nd : W.Nodup) (pm9 : ws9.Perm W) (so9 : ws9.Pairwise fun x y => ltStrs y x = false) (pm10 : ws10.Perm W)
    (so7 : xs7.Pairwise fun x y => ¬ y.cps.toList < x.cps.toList) (e7 : xs7 = ws10.map pathS) (hrk : rk = xs7.map fun x => ((ws9.map pathS).idxOf x : Int)) :
    total (cntA rk) rk.length = total (cntB W) W.length := by
  have in9 : ∀ w ∈ ws9, w ∈ allW j := fun w h => hw w (pm9.mem_iff.mp h)
  have in10 : ∀ w ∈ ws10, w ∈ allW j := fun w h => hw w (pm10.mem_iff.mp h)
  have nd9 : ws9.Nodup := pm9.nodup_iff.mpr nd
  have nd10 : ws10.Nodup := pm10.nodup_iff.mpr nd
  have hlen : rk.length = ws10.length := by rw [hrk, e7]; simp
  have hget : ∀ i, i < ws10.length → rk.getD i 0 = (ws9.idxOf (ws10.getD i []) : Int) := fun i hi => by
    have m : ws10[i] ∈ ws10 := List.getElem_mem hi
    have e : (ws9.map pathS).idxOf (pathS ws10[i]) = ws9.idxOf ws10[i] := idxOf_map fun b hb q => path_inj hj b (in9 b hb) _ (in10 _ m) q
    rw [hrk, e7]
    simp [hi, e]
  rw [e7, List.pairwise_map] at so7
  have pw := List.pairwise_iff_getElem.mp so7
  have pn := List.pairwise_iff_getElem.mp nd10
  rw [hlen, ← totalB_perm pm10]
  unfold total
  refine congrArg List.sum (List.map_congr_left fun i hi => ?_)
  have hi := List.mem_range.mp hi
  unfold cntA cntB
  have hm : (rk.take i).length = i := by rw [List.length_take]; omega
  rw [hm]
  have gi : ws10.getD i [] = ws10[i] := by simp [hi]
  have split : List.range ws10.length = List.range i ++ (List.range (ws10.length - i)).map (i + ·) := by
    have : ws10.length = i + (ws10.length - i) := by omega
    rw [this, List.range_add]
    simp
  rw [split, List.filter_append, List.length_append]
  have z : ((List.range (ws10.length - i)).map (i + ·)).filter (fun k => turnedS (ws10.getD i []) (ws10.getD k [])) = [] := by
    rw [List.filter_eq_nil_iff]
    intro k hk
    obtain ⟨d, hd, rfl⟩ := List.mem_map.mp hk
    have hd := List.mem_range.mp hd
    have hk' : i + d < ws10.length := by omega
    have gk : ws10.getD (i + d) [] = ws10[i + d] := by simp [hk']
    rw [gi, gk, turned_is hj _ (in10 _ (List.getElem_mem hi)) _ (in10 _ (List.getElem_mem hk'))]
    have : pathLt ws10[i + d] ws10[i] = false := by
      refine decide_eq_false ?_
      rcases Nat.eq_zero_or_pos d with q | q
      · subst q; exact List.lt_irrefl _
      · exact pw i (i + d) hi hk' (by omega)
    rw [this]; simp
  rw [z, List.length_nil, Nat.add_zero]
  refine congrArg List.length (List.filter_congr fun k hk => ?_)
  have hk := List.mem_range.mp hk
  have hk' : k < ws10.length := by omega
  have gk : ws10.getD k [] = ws10[k] := by simp [hk']
  have mi := List.getElem_mem hi
  have mk := List.getElem_mem hk'
  have hne : ws10[k] ≠ ws10[i] := pn k i hk' hi hk
  rw [hget i hi, hget k hk', gi, gk, turned_is hj _ (in10 _ mi) _ (in10 _ mk)]
  have lt : pathLt ws10[k] ws10[i] = true := by
    refine decide_eq_true ?_
    rcases List.le_iff_lt_or_eq.mp (List.not_lt.mp (pw k i hk' hi hk)) with q | q
    · exact q
    · exact absurd (path_inj hj _ (in10 _ mk) _ (in10 _ mi) (str_eq q)) hne
  rw [lt, Bool.true_and, idx_lt nd9 so9 (pm9.mem_iff.mpr (pm10.mem_iff.mp mi)) (pm9.mem_iff.mpr (pm10.mem_iff.mp mk)) (Ne.symm hne)]
  simp
end
section
open PySem PySem.W PyProof.Rows PySem.Calls
theorem anew_Law1 : True := by w_top off; trivial
local macro_rules | `(tactic| walk_at "m_store") => `(tactic| ((case sc => rfl); (case sk => rfl); (case sL => rfl); (case sF => k_asm); (case sN => first | k_asm | exact news_tl (by k_asm)); (case sX => assumption); (case sl => assumption); (case sd => k_asm); k_whole; intro h' o' F' N' d'; (try k_sweep)))
local macro_rules | `(tactic| walk_at "storeName") => `(tactic| (k_dflt ((refine' store_c2 ?sF ?sN ?sX ?sl ?sd ?_ ?sk ?sL ?sc); walk_at "m_store")))
local macro_rules | `(tactic| walk_at "storeName") => `(tactic| (k_dflt ((refine' store_c3 ?sF ?sN ?sX ?sl ?sd ?_ ?sk ?sL ?sc); walk_at "m_store")))
local macro_rules | `(tactic| walk_at "storeName") => `(tactic| (k_dflt ((refine' store_c4 ?sF ?sN ?sX ?sl ?sd ?_ ?sk ?sL ?sc); walk_at "m_store")))
local macro_rules | `(tactic| walk_at "storeName") => `(tactic| (k_dflt ((refine' store_c5 ?sF ?sN ?sX ?sl ?sd ?_ ?sk ?sL ?sc); walk_at "m_store")))
local macro_rules | `(tactic| walk_at "call builtin:len") => `(tactic| (k_dflt ((refine' s_len ?lh ?ln ?_); (case lh => exact PySem.IsL.isList (News.get (by k_asm) (by (first | exact m6 (by assumption) | exact .tail _ (m6 (by assumption)) | exact .tail _ (.tail _ (m6 (by assumption))))))); (case ln => omega); k_whole; intro t' tk')))
local macro_rules | `(tactic| walk_at "call builtin:len") => `(tactic| (k_dflt ((refine' b_len ?lF ?lh ?ln ?_); (case lF => k_asm); (case lh => assumption); (case ln => first | omega | (simp; done)); k_whole; (try dsimp only [List.length]); intro t' tk')))
local macro_rules | `(tactic| walk_at "subscriptTail Name Constant ref int") => `(tactic| (k_dflt ((with_reducible show wpAny _ _ (subscriptTail _ _ (Value.ref _) (Value.int _ _)) _ _ _); (with_unfolding_all refine' b_get (d := ?gd) ?gF ?ghl ?ge ?ghf ?gv ?_ ?gz); (case gF => k_asm); (case ghl => assumption); (case gz => with_unfolding_all rfl); (case ge => rfl); (case gv => assumption); (case ghf => decide); k_whole)))
theorem law_holds : PySem.Challenge.rw_ik0041_01.Holds := by
  refine hd ?_
  w_strict k_go0
  rename Fr _ _ _ _ => F0
  rename News _ _ _ _ => N0
  rename (hd.heap_39 _).In _ => X0
  rename Top _ _ _ _ _ _ => T0
  rename (Ground ..) => z1
  rename (LooseAre ..) => z2
  rename (Tables ..) => z3
  rename (TopE ..) => z4
  rename (TopW ..) => z5
  rename (Flt.MathXP ..) => z6
  rename (Dflts ..) => z7
  rename (TabsAt ..) => z8
  rename (CellsAre ..) => z9
  rename (Below ..) => z10
  rename (Heap.CodeRec ..) => z11
  rename (Well ..) => z14
  rename (ReadsAllW ..) => z15
  rename (Reads ..) => z16
  rename (ReadsAll ..) => z17
  rename (WShape.hasAll _ _ _ = true) => z18
  rename (WData.layableAll _ = true) => z19
  rename (PyData.layable0 _ = true) => z20
  rename (PyData.layableAll0 _ = true) => z21
  rename (Spec.Shape.has _ _ = true) => z22
  rename List Int => inz
  rename Shared => s1
  rename (_ < s1.heap.objs.size) => l0
  clear z1 z2 z3 z4 z5 z6 z7 z8 z9 z10 z11 z14 z15 z16 z17 z18 z19 z20 z21 z22 hT8
  dsimp only at *
  generalize hBe : ghostOf s1.heap [(213, 211)] = B at *
  generalize hLe : s1.heap.objs.size = L at *
  k_unmd
  k_fold
  obtain ⟨j, hj, ej⟩ : ∃ j : Nat, j < 4 ∧ ((inz.take 4).sum).fmod 4 = (j : Int) := ⟨(((inz.take 4).sum).fmod 4).toNat, by have := Int.fmod_nonneg_of_pos (inz.take 4).sum (show (0 : Int) < 4 by decide); have := Int.fmod_lt_of_pos (inz.take 4).sum (show (0 : Int) < 4 by decide); omega, by have := Int.fmod_nonneg_of_pos (inz.take 4).sum (show (0 : Int) < 4 by decide); omega⟩
  (repeat (first | (k_unfold; (try dsimp only)) | ((fail_if_success (with_reducible show wpAny _ _ (subscriptTail (PySem.Expr.List ..) _ _ _) _ _ _)); (first | walk1 | (dsimp only; walk1)))))
  with_unfolding_all refine' two_tail ?tl ?te ?tj ?_ ?ts
  case te => assumption
  case tj => assumption
  case ts => with_unfolding_all rfl
  case tl => exact News.isList (by k_asm) (by k_mem)
  intro ttw
  (repeat (first | (k_unfold; (try dsimp only)) | ((fail_if_success (with_reducible show wpAny _ _ (eval (Expr.ListComp _ _ _ _) _) _ _ _)); (first | walk1 | (dsimp only; walk1)))))
  rename IntsAre _ (_ ++ _) => hI2
  rename Fr B L _ _ => F0
  rename News B L _ _ => N0
  obtain ⟨nws1, N1, hD, hx1⟩ := regroup_first F0 N0 (by intro q; simp only [cl6, List.mem_cons, List.not_mem_nil, or_false] at q; rcases q with q | q | q | q | q | q <;> (have q' : (_ : Nat) = (_ : Nat) := q; omega))
  have F1 := F0
  clear F0 N0
  generalize hnums : (inz.take 4 ++ [0, 25, 2, 3, 13, 6]) = nums at *
  have lenN : nums.length ≤ 10 := by rw [← hnums, List.length_append]; simp; omega
  have lenI := hI2.length
  refine' comp1 (cl := [(Str.ofString "two", L + 1)]) ?clos ?cell ?kind ?names ?qxx ?_
  case cell => decide
  case clos => with_unfolding_all rfl
  case kind => rfl
  case names => decide
  case qxx => rfl
  k_steps
  refine' go_list (JM B L (fun i : Nat => (nums.take i).map (wayS j))) rfl (PySem.IsL.isList (News.get N1 (.tail _ (.tail _ (.tail _ (.tail _ (.tail _ (.tail _ hD)))))))) ?le JM.mono (JM.zero rfl) ?turn ?done
  case le => omega
  case turn =>
    dsimp only
    intro g hg1 hg2 S i v ys C m₃ nw3 s₃ hi hS0 hSC hS1 hP hJ F3 hm3 N3 hall
    obtain ⟨h3, g3, d3, tk3, o3⟩ := s₃
    refine wpAny_pure ⟨CPost.mk' F3 N3 fun _ q => q, ?_⟩
    rw [if_pos rfl]
    dsimp only at *
    have outg : ∀ a, h3.get? a = none → Out B L a := fun a e => out_of F1 N1 (by cases q : Heap.get? _ a with | none => rfl | some o => rw [F3.keep _ _ (hg1 a o q)] at e; cases e)
    have c1 : CellIs g (L + 1) (.bytes (altOf j) ttw) := ⟨_, hg1 _ _ (News.get N1 (by k_mem)), by assumption⟩
    have Xg := X0.keeps (stays_trans F1.keep hg1)
    have Tg := T0.keeps (stays_trans F1.keep hg1)
    obtain ⟨n, tn, rfl, hn⟩ := ints_at hI2 hP
    clear F1 N1
    k_steps
    refine' way_K (by assumption) (by assumption) _ _ _ _ _ _ _ _ (nameS j) (altOf_size hj) (fun d hd => dec_name hj hd) ?wqa ?wqb ?wqc ?wqd ?_
    case wqa => exact rfl
    case wqb => exact Fr.keep (by k_asm)
    case wqc => ((try simp only [depth_deeper, PyProof.Rows.depth_caller]); (try dsimp only); omega)
    case wqd => ((try simp only [Around.deeper_units, PyProof.Rows.units_caller]); decide)
    intro h5 tk5 r vs kk hs5 hr0 hr5 hvs
    have F5 := F3.keeps hs5
    have N5 := News.grown N3 hs5
    clear F3 N3
    k_steps
    · exact CPost.mk' F5 N5 fun _ q => q
    · show JL B L S h5 (ys ++ [.ref r]) ((nums.take (i + 1)).map (wayS j))
      rw [take_snoc hn]
      exact (JL.keep hJ hs5).snoc (fun q => by obtain ⟨o, e⟩ := hS1 r q; rw [hr0] at e; cases e) (outg r hr0) hr5 hvs
  case done =>
  intro D1 ys1 h' tk' k1 S e1 e2 e3 hSD hJ
  dsimp only at e1 e2 e3 ⊢
  have F2 := F1.keeps e1
  obtain ⟨nws2, N2, sub, hx2, all⟩ := regroup6 F2 (News.grown N1 e1) hx1
  have hD1 : (D1, listOf ys1.toArray k1) ∈ nws2 := all _ _ e3 (out_of F1 N1 e2)
  have R1 : LR (fun a o => (a, o) ∈ nws2) ys1 (nums.map (wayS j)) := by
    have q := JL.out hJ all
    dsimp only at q
    rwa [lenI, List.take_length] at q
  replace hD := sub _ hD
  clear F1 N1 e1 e2 e3 hJ all hSD
  (repeat (first | (k_unfold; (try dsimp only)) | ((fail_if_success (with_reducible show wpAny _ _ (eval (Expr.ListComp _ _ _ _) _) _ _ _)); (first | walk1 | (dsimp only; walk1)))))
  obtain ⟨pc1, pc2, px, pn0, pn1, pn2, pn3⟩ := plain_names hj
  refine' comp1 (cl := [(Str.ofString "two", L + 1)]) ?clos ?cell ?kind ?names ?qxx ?_
  case cell => decide
  case clos => with_unfolding_all rfl
  case kind => rfl
  case names => decide
  case qxx => rfl
  k_steps
  refine' go_list (JM B L (fun i : Nat => (nums.take i).map (wayS j))) rfl (PySem.IsL.isList (News.get N2 (.tail _ (.tail _ (.tail _ (.tail _ (.tail _ (.tail _ hD)))))))) ?le JM.mono (JM.zero rfl) ?turn ?done
  case le => omega
  case turn =>
    dsimp only
    intro g hg1 hg2 S i v ys C m₃ nw3 s₃ hi hS0 hSC hS1 hP hJ F3 hm3 N3 hall
    obtain ⟨h3, g3, d3, tk3, o3⟩ := s₃
    refine wpAny_pure ⟨CPost.mk' F3 N3 fun _ q => q, ?_⟩
    rw [if_pos rfl]
    dsimp only at *
    have outg : ∀ a, h3.get? a = none → Out B L a := fun a e => out_of F2 N2 (by cases q : Heap.get? _ a with | none => rfl | some o => rw [F3.keep _ _ (hg1 a o q)] at e; cases e)
    have c1 : CellIs g (L + 1) (.bytes (altOf j) ttw) := ⟨_, hg1 _ _ (News.get N2 (by k_mem)), by assumption⟩
    have Xg := X0.keeps (stays_trans F2.keep hg1)
    have Tg := T0.keeps (stays_trans F2.keep hg1)
    obtain ⟨n, tn, rfl, hn⟩ := ints_at hI2 hP
    clear F2 N2
    k_steps
    refine' plain_K (by assumption) (by assumption) _ _ _ _ _ _ _ _ (nameS j) (twoS j) pc1 pc2 (dec_two hj) px pn0 pn1 pn2 pn3 ?wqa ?wqb ?wqc ?wqd ?_
    case wqa => exact rfl
    case wqb => exact Fr.keep (by k_asm)
    case wqc => ((try simp only [depth_deeper, PyProof.Rows.depth_caller]); (try dsimp only); omega)
    case wqd => ((try simp only [Around.deeper_units, PyProof.Rows.units_caller]); decide)
    intro h5 tk5 r vs kk hs5 hr0 hr5 hvs
    have F5 := F3.keeps hs5
    have N5 := News.grown N3 hs5
    clear F3 N3
    k_steps
    · exact CPost.mk' F5 N5 fun _ q => q
    · show JL B L S h5 (ys ++ [.ref r]) ((nums.take (i + 1)).map (wayS j))
      rw [take_snoc hn]
      exact (JL.keep hJ hs5).snoc (fun q => by obtain ⟨o, e⟩ := hS1 r q; rw [hr0] at e; cases e) (outg r hr0) hr5 hvs
  case done =>
  intro D2 ys2 h' tk' k1 S e1 e2 e3 hSD hJ
  dsimp only at e1 e2 e3 ⊢
  have F3 := F2.keeps e1
  obtain ⟨nws3, N3, sub, hx3, all⟩ := regroup6 F3 (News.grown N2 e1) hx2
  have hD2 : (D2, listOf ys2.toArray k1) ∈ nws3 := all _ _ e3 (out_of F2 N2 e2)
  have R2 : LR (fun a o => (a, o) ∈ nws3) ys2 (nums.map (wayS j)) := by
    have q := JL.out hJ all
    dsimp only at q
    rwa [lenI, List.take_length] at q
  replace hD := sub _ hD
  clear F2 N2 e1 e2 e3 hJ all hSD
  have hD1 := sub _ hD1
  have R1 := LR.mono (fun a o q => sub _ q) R1
  have lenR1 := R1.length
  have lenR2 := R2.length
  rw [List.length_map] at lenR1 lenR2
  (repeat (first | (k_unfold; (try dsimp only)) | ((fail_if_success (with_reducible show wpAny _ _ (eval (Expr.ListComp _ _ _ _) _) _ _ _)); (first | walk1 | (dsimp only; walk1)))))
  refine' comp1 (cl := [(Str.ofString "plain", L + 1 + 1)]) ?clos ?cell ?kind ?names ?qxx ?_
  case cell => decide
  case clos => with_unfolding_all rfl
  case kind => rfl
  case names => decide
  case qxx => rfl
  k_steps
  rename Fr B L _ _ => F4
  rename News B L _ _ => N4
  have okP : ∀ w ∈ nums.map (wayS j), okW w = true := fun w hw => by
    obtain ⟨n, _, rfl⟩ := List.mem_map.mp hw
    exact all_ok hj _ (way_all j n)
  have okP2 : ∀ w ∈ nums.map (wayS j), w ∈ allW j := fun w hw => by
    obtain ⟨n, _, rfl⟩ := List.mem_map.mp hw
    exact way_all j n
  have lenP : (nums.map (wayS j)).length = nums.length := List.length_map ..
  generalize hPL : nums.map (wayS j) = PL at *
  refine' go_range (n := nums.length) (JM B L (firsts PL)) rfl (by assumption) ?sm ?sz (by omega) JM.mono (JM.zero rfl) ?turn ?done
  case sm => exact small_one (by decide) (by decide) (by omega) (by omega)
  case sz => rw [rangeSize_nat, Int.sub_zero, lenR2]; simp
  case turn =>
    dsimp only
    intro g hg1 hg2 S i v ys C m₃ nw3 s₃ hi hS0 hSC hS1 hP hJ F3 hm3 N3 hall
    obtain ⟨t', rfl⟩ := hP
    obtain ⟨h3, g3, d3, tk3, o3⟩ := s₃
    dsimp only at *
    have c2 : CellIs g (L + 1 + 1) (.ref D2) := ⟨_, hg1 _ _ (News.get N4 (by k_mem)), by assumption⟩
    have M2 : g.IsList D2 ys2.toArray := PySem.IsL.isList (hg1 _ _ (News.get N4 (m6 hD2)))
    have G2 : LR (fun a o => g.get? a = some o) ys2 PL := R2.mono fun a o q => hg1 _ _ (News.get N4 (m6 q))
    obtain ⟨u, hu⟩ : ∃ u, PL[i]? = some u := ⟨_, List.getElem?_eq_getElem (by omega)⟩
    obtain ⟨a, vs, n, hv2, hr, hvs⟩ := R2.at hu
    have hga := hg1 _ _ (News.get N4 (m6 hr))
    have hao : Out B L a := ⟨(N4 _ (m6 hr)).2.2, (N4 _ (m6 hr)).2.1, hx3 _ hr⟩
    have hSa : ¬ S a := fun q => by rw [hS0 a q] at hga; cases hga
    have oku := okW_ok (okP _ (List.mem_of_getElem? hu))
    have okt : ∀ w ∈ PL.take i, OkS w := fun w hw => okW_ok (okP _ (List.mem_of_mem_take hw))
    clear F4 N4
    refine ifs_one ?_
    have ei : (0 : Int) + (i : Int) * 1 = (i : Int) := by omega
    (repeat (first | (k_unfold; (try dsimp only)) | ((fail_if_success (with_reducible show wpAny _ _ (compareOp _ (Value.ref _) (Value.ref _)) _ _ _)); (first | walk1 | (dsimp only; walk1)))))
    rename Fr g C _ _ => F5
    rename News g C _ _ => N5
    refine' notin_lists (News.isList N5 (by k_mem)) ((LR.mono (fun a o q => F5.keep a o q) G2).take i) (F5.keep _ _ hga) hvs okt oku ?nu ?_
    case nu => ((try simp only [Around.deeper_units, PyProof.Rows.units_caller]); decide)
    have K5 : KeptBut S h3 _ := kept_of hall hSC F5 (news_tl N5)
    have hJ5 := JM.mono _ _ _ _ _ hJ K5
    k_steps
    · exact CPost.mk' F5 N5 fun _ q => .tail _ q
    · exact CPost.mk' F5 N5 fun _ q => .tail _ q
    · have a1 : u ∉ PL.take i := by assumption
      show JL B L S _ (ys ++ [.ref a]) (firsts PL (i + 1))
      rw [firsts_in hu a1]
      exact JL.snoc hJ5 hSa hao (F5.keep _ _ hga) hvs
    · have a1 : u ∈ PL.take i := by first | assumption | exact Classical.not_not.mp (by assumption)
      show JL B L S _ ys (firsts PL (i + 1))
      rw [firsts_out hu a1]
      exact hJ5
  case done =>
  intro D4 ys4 h' tk' k4 S e1 e2 e3 hSD hJ
  dsimp only at e1 e2 e3 ⊢
  have F5 := F4.keeps e1
  obtain ⟨nws5, N5, sub, hx5, all⟩ := regroup6 F5 (News.grown N4 e1) hx3
  have hD4 := all _ _ e3 (out_of F4 N4 e2)
  have R4 : LR (fun a o => (a, o) ∈ nws5) ys4 (firsts PL nums.length) := JL.out hJ all
  rw [← lenP] at R4
  have hD1 := sub _ hD1
  have R1 := LR.mono (fun a o q => sub _ q) R1
  have hD2 := sub _ hD2
  have R2 := LR.mono (fun a o q => sub _ q) R2
  clear F4 N4 e1 e2 e3 hJ all hSD hx1 hx2 hx3 px pn0 pn1 pn2 pn3 hD sub
  have okW4 : ∀ w ∈ firsts PL PL.length, okW w = true := fun w hw => okP w (firsts_mem w hw)
  have inW4 : ∀ w ∈ firsts PL PL.length, w ∈ allW j := fun w hw => okP2 w (firsts_mem w hw)
  have lenW := firsts_len PL PL.length
  generalize hWS : firsts PL PL.length = WS at *
  have lenR4 := R4.length
  (repeat (first | (k_unfold; (try dsimp only)) | ((fail_if_success (with_reducible show wpAny _ _ (exec (Stmt.Assign _ (PySem.Expr.ListComp ..) _) _) _ _ _)); (first | walk1 | (dsimp only; walk1)))))
  refine' assign_comp1 (cl := []) ?sw ?clos ?cell ?kind ?names ?qxx ?hy ?hp ?_
  case sw => with_unfolding_all rfl
  case cell => decide
  case clos => with_unfolding_all rfl
  case kind => rfl
  case names => decide
  case qxx => rfl
  case hy => rfl
  case hp => rfl
  k_steps
  rename Fr B L _ _ => F5
  rename News B L _ _ => N5
  refine ⟨_, F5.ns, ?_⟩
  refine' go_listA (fun S i ys h => StrsAre ys ((WS.take i).map pathS)) rfl (PySem.IsL.isList (News.get N5 (m6 hD4))) ?le (fun _ _ _ _ _ q _ => q) (fun _ _ _ => .nil) ?turn ?done
  case le => omega
  case turn =>
    dsimp only
    intro g hg1 hg2 S i v ys C m₃ nw3 s₃ hi hS0 hSC hS1 hP hJ F3 hm3 N3 hall
    obtain ⟨h3, g3, d3, tk3, o3⟩ := s₃
    refine wpAny_pure ⟨CPost.mk' F3 N3 fun _ q => q, ?_⟩
    rw [if_pos rfl]
    dsimp only at *
    obtain ⟨u, hu⟩ : ∃ u, WS[i]? = some u := ⟨_, List.getElem?_eq_getElem (by omega)⟩
    obtain ⟨a, vs, n, hv2, hr, hvs⟩ := R4.at hu
    obtain rfl : v = .ref a := Option.some.inj (hP.symm.trans hv2)
    have hga : g.IsList a vs.toArray := PySem.IsL.isList (hg1 _ _ (News.get N5 (m6 hr)))
    have Xg := X0.keeps (stays_trans F5.keep hg1)
    have Tg := T0.keeps (stays_trans F5.keep hg1)
    have oku := okW4 u (List.mem_of_getElem? hu)
    have osm := okW_small oku
    have osp := okW_sep oku
    have oln := okW_len oku
    rw [take_snoc hu]
    clear F5 N5 hP hv2 hr
    clear oln
    rcases way_cases hvs oku with ⟨x, t, rfl, rfl⟩ | ⟨x, y, t, t2, rfl, rfl⟩
    · have g0 : [Value.str x t][0]? = some (.str x t) := rfl
      k_steps
      · exact CPost.mk' F3 N3 fun _ q => q
      · exact strs_snoc hJ x t
    · have g0 : [Value.str x t, Value.str y t2][0]? = some (.str x t) := rfl
      have g1 : [Value.str x t, Value.str y t2][1]? = some (.str y t2) := rfl
      have p1 : x.length < 1000 := by have := (osm x (.head _)).1; omega
      have p2 : y.length < 1000 := by have := (osm y (.tail _ (.head _))).1; omega
      have p3 := (osp y (.tail _ (.head _))).1
      have p4 : x.length ≠ 0 := by have := (osm x (.head _)).2; omega
      have p5 := (osp x (.head _)).2
      (repeat (first | (k_unfold; (try dsimp only)) | ((fail_if_success (with_reducible show wpAny _ _ (call (Value.ref 173) _) _ _ _)); (first | walk1 | (dsimp only; walk1)))))
      ((k_dflt ((with_reducible show wpAny _ _ (call (Value.ref 173) _) _ _ _); refine' join_K (by assumption) (by assumption) _ _ _ _ _ _ _ _ ?ja ?jb ?jc ?jd (by assumption) (by assumption) (by assumption) (by assumption) (by assumption) ?_; (case ja => exact rfl); (case jb => exact Fr.keep (by k_asm)); (case jc => ((try simp only [depth_deeper, PyProof.Rows.depth_caller]); (try dsimp only); omega)); (case jd => ((try simp only [Around.deeper_units, PyProof.Rows.units_caller]); decide)); intro h0' tk0' t0'; revert h0' tk0'; ((intro h' tk' hs'; (with_reducible rename Fr _ _ _ _ => F9); (with_reducible rename News _ _ _ _ => N9); (have F' := F9.keeps hs'); (have N' := News.grown N9 hs'); clear F9 N9; (try dsimp only))))))
      k_steps
      · exact CPost.mk' (by assumption) (by assumption) fun _ q => q
      · exact strs_snoc hJ _ _
  case done =>
  intro D6 ys6 h' tk' k6 S e1 e2 e3 hSD hJ
  dsimp only at e1 e2 e3 ⊢
  intro h'' hsb hns2
  (try dsimp only at hsb hns2 ⊢)
  have F6 := F5.keeps e1
  obtain ⟨nws6, N6, sub, hx6, all⟩ := regroup6 F6 (News.grown N5 e1) hx5
  have hD6 := all _ _ e3 (out_of F5 N5 e2)
  have F6 := Fr.set F6 hns2 hsb
  have N6 := news_set N6 hsb
  have R6 : StrsAre ys6 (WS.map pathS) := by rwa [lenR4, List.take_length] at hJ
  have hD1 := sub _ hD1
  have R1 := LR.mono (fun a o q => sub _ q) R1
  have hD2 := sub _ hD2
  have R2 := LR.mono (fun a o q => sub _ q) R2
  have hD4 := sub _ hD4
  have R4 := LR.mono (fun a o q => sub _ q) R4
  clear F5 N5 e1 e2 e3 hJ all hSD sub hns2 hsb
  have lenR6 := R6.length
  rw [List.length_map] at lenR6
  (repeat (first | (k_unfold; (try dsimp only)) | ((fail_if_success (with_reducible show wpAny _ _ (call (Value.ref 204) _) _ _ _)); (first | walk1 | (dsimp only; walk1)))))
  refine' lawoff_K (X0.keeps F6.keep) (T0.keeps F6.keep) ltV _ _ _ _ D6 ys6 ?wra0 ?wra (fun _ _ e => e) (PySem.IsL.isList (News.get N6 (m6 hD6))) ?wrb ?wrc (by omega) ?_
  case wra0 => exact ltV_all R6
  case wra => exact rfl
  case wrb => ((try simp only [depth_deeper, PyProof.Rows.depth_caller]); (try dsimp only); omega)
  case wrc => ((try simp only [Around.deeper_units, PyProof.Rows.units_caller]); decide)
  intro h' tk' D7 kD7 e1 e3 e2
  dsimp only at e1 e2 e3 ⊢
  have F7 := F6.keeps e1
  obtain ⟨nws7, N7, sub, hx7, all⟩ := regroup6 F7 (News.grown N6 e1) hx6
  have hD7 := all _ _ e3 (out_of F6 N6 e2)
  have hD1 := sub _ hD1
  have R1 := LR.mono (fun a o q => sub _ q) R1
  have hD2 := sub _ hD2
  have R2 := LR.mono (fun a o q => sub _ q) R2
  have hD4 := sub _ hD4
  have R4 := LR.mono (fun a o q => sub _ q) R4
  have hD6 := sub _ hD6
  clear F6 N6 e1 e2 e3 all sub hx6
  obtain ⟨xs7, R7, pm7, so7⟩ := off_strs R6
  generalize popN ltV ys6.length (pushAll ltV ys6) = ys7 at *
  (repeat (first | (k_unfold; (try dsimp only)) | ((fail_if_success (with_reducible show wpAny _ _ (eval (Expr.ListComp _ _ _ _) _) _ _ _)); (first | walk1 | (dsimp only; walk1)))))
  refine' comp1 (cl := []) ?clos ?cell ?kind ?names ?qxx ?_
  case cell => decide
  case clos => with_unfolding_all rfl
  case kind => rfl
  case names => decide
  case qxx => rfl
  k_steps
  refine' go_list (JM B L (fun i : Nat => WS.take i)) rfl (PySem.IsL.isList (News.get N7 (m6 hD6))) ?le JM.mono (JM.zero rfl) ?turn ?done
  case le => omega
  case turn =>
    dsimp only
    intro g hg1 hg2 S i v ys C m₃ nw3 s₃ hi hS0 hSC hS1 hP hJ F3 hm3 N3 hall
    obtain ⟨h3, g3, d3, tk3, o3⟩ := s₃
    refine wpAny_pure ⟨CPost.mk' F3 N3 fun _ q => q, ?_⟩
    rw [if_pos rfl]
    dsimp only at *
    have outg : ∀ a, h3.get? a = none → Out B L a := fun a e => out_of F7 N7 (by cases q : Heap.get? _ a with | none => rfl | some o => rw [F3.keep _ _ (hg1 a o q)] at e; cases e)
    have Xg := X0.keeps (stays_trans F7.keep hg1)
    have Tg := T0.keeps (stays_trans F7.keep hg1)
    obtain ⟨u, hu⟩ : ∃ u, WS[i]? = some u := ⟨_, List.getElem?_eq_getElem (by omega)⟩
    obtain ⟨t, ht⟩ := R6.at (j := i) (y := pathS u) (by rw [List.getElem?_map, hu]; rfl)
    obtain rfl : v = .str (pathS u) t := Option.some.inj (hP.symm.trans ht)
    have oku := okW4 u (List.mem_of_getElem? hu)
    have hns := names_of (all_okN hj _ (inW4 u (List.mem_of_getElem? hu)))
    have hul := okW_len oku
    have hpl : (pathS u).length < 1000 := pathS_len oku
    clear F7 N7
    k_steps
    refine' names_K (by assumption) (by assumption) _ _ _ _ (pathS u) t u hns ?wqa ?wqb ?wqc ?wqd hpl (by omega) ?_
    case wqa => exact rfl
    case wqb => exact Fr.keep (by k_asm)
    case wqc => ((try simp only [depth_deeper, PyProof.Rows.depth_caller]); (try dsimp only); omega)
    case wqd => ((try simp only [Around.deeper_units, PyProof.Rows.units_caller]); decide)
    intro h5 tk5 r vs kk hs5 hr0 hr5 hvs
    have F5 := F3.keeps hs5
    have N5 := News.grown N3 hs5
    clear F3 N3
    k_steps
    · exact CPost.mk' F5 N5 fun _ q => q
    · show JL B L S h5 (ys ++ [.ref r]) (WS.take (i + 1))
      rw [List.take_add_one, hu]
      exact (JL.keep hJ hs5).snoc (fun q => by obtain ⟨o, e⟩ := hS1 r q; rw [hr0] at e; cases e) (outg r hr0) hr5 hvs
  case done =>
  intro D8 ys8 h' tk' k8 S e1 e2 e3 hSD hJ
  dsimp only at e1 e2 e3 ⊢
  have F8 := F7.keeps e1
  obtain ⟨nws8, N8, sub, hx8, all⟩ := regroup6 F8 (News.grown N7 e1) hx7
  have hD8 := all _ _ e3 (out_of F7 N7 e2)
  have R8 : LR (fun a o => (a, o) ∈ nws8) ys8 WS := by
    have q := JL.out hJ all
    dsimp only at q
    rwa [lenR6, List.take_length] at q
  clear hJ hSD
  have hD1 := sub _ hD1
  have R1 := LR.mono (fun a o q => sub _ q) R1
  have hD2 := sub _ hD2
  have R2 := LR.mono (fun a o q => sub _ q) R2
  have hD4 := sub _ hD4
  have R4 := LR.mono (fun a o q => sub _ q) R4
  have hD7 := sub _ hD7
  clear F7 N7 e1 e2 e3 all sub hx7
  have lenR8 := R8.length
  (repeat (first | (k_unfold; (try dsimp only)) | ((fail_if_success (with_reducible show wpAny _ _ (call (Value.ref 204) _) _ _ _)); (first | walk1 | (dsimp only; walk1)))))
  refine' lawoff_K (X0.keeps F8.keep) (T0.keeps F8.keep) (ltR _) _ _ _ _ D8 ys8 ?wra0 ?wra (fun _ _ e => e) (PySem.IsL.isList (News.get N8 (m6 hD8))) ?wrb ?wrc (by omega) ?_
  case wra0 => exact ltR_all (LR.mono (fun a o q => News.get N8 (m6 q)) R8)
  case wra => exact rfl
  case wrb => ((try simp only [depth_deeper, PyProof.Rows.depth_caller]); (try dsimp only); omega)
  case wrc => ((try simp only [Around.deeper_units, PyProof.Rows.units_caller]); decide)
  intro h' tk' D9 kD9 e1 e3 e2
  dsimp only at e1 e2 e3 ⊢
  obtain ⟨ws9, R9, pm9, so9⟩ := off_lists R8 (LR.mono (fun a o q => News.get N8 (m6 q)) R8)
  have F9 := F8.keeps e1
  obtain ⟨nws9, N9, sub, hx9, all⟩ := regroup6 F9 (News.grown N8 e1) hx8
  have hD9 := all _ _ e3 (out_of F8 N8 e2)
  have hD1 := sub _ hD1
  have R1 := LR.mono (fun a o q => sub _ q) R1
  have hD2 := sub _ hD2
  have R2 := LR.mono (fun a o q => sub _ q) R2
  have hD4 := sub _ hD4
  have R4 := LR.mono (fun a o q => sub _ q) R4
  have hD7 := sub _ hD7
  have R9 := LR.mono (fun a o q => sub _ q) R9
  clear F8 N8 e1 e2 e3 all sub hx8
  generalize popN (ltR _) ys8.length (pushAll (ltR _) ys8) = ys9 at *
  have nd4 : WS.Nodup := hWS ▸ firsts_nodup PL PL.length (Nat.le_refl _)
  have two4 : 2 ≤ WS.length := by rw [← hWS, ← hPL]; exact two_ways hnums.symm
  (repeat (first | (k_unfold; (try dsimp only)) | ((fail_if_success (with_reducible show wpAny _ _ (eval (PySem.Expr.Lambda ..) _) _ _ _)); (first | walk1 | (dsimp only; walk1)))))
  rename Fr B L _ _ => F9
  rename News B L _ _ => N9
  refine kla_eval rfl ?_
  refine' kla_nest F9 N9 T0 codeHd rfl (upd_tab hx9 l0) ?ht ?hnf ?hcl ?_
  case ht => first | exact (fun _ h => nomatch h) | simp [TriplesOk]
  case hnf => rfl
  case hcl => rfl
  intro fL cL ocL vsL tL ctL h' tk' F10 N10 d1L d2L l1L l2L
  clear F9 N9
  (repeat (first | (k_unfold; (try dsimp only)) | ((fail_if_success (with_reducible show wpAny _ _ (call (Value.builtin "sorted") _ _) _ _ _)); (first | walk1 | (dsimp only; walk1)))))
  have hxL : ∀ q ∈ nws9, q.1 < cL := fun q hq => l1L q (m6 hq)
  refine' sorted_ways (core := [_, _, _, _, _, _, _, _]) (nws := nws9) (us := WS) F10 N10 ?hx ?hl R4 okW4 (by omega) (by omega) ?hlam (keys_nodup hj inW4 nd4) ?hu ?_
  case hx =>
    intro q hq z
    have h1 := hxL q hq
    have h2 := hx9 q hq
    simp only [List.map_cons, List.map_nil, List.mem_cons, List.not_mem_nil, or_false, cl6] at z h2
    rcases z with z | z | z
    · rw [z] at h1; exact Nat.lt_asymm h1 l2L
    · rw [z] at h1; exact Nat.lt_irrefl _ h1
    · exact h2 z
  case hl => exact PySem.IsL.isList (News.get N10 (.tail _ (.tail _ (m6 hD4))))
  case hu => ((try simp only [Around.deeper_units, Around.in1_units, PyProof.Rows.units_caller]); decide)
  case hlam =>
    clear F10 N10
    intro DD ee s Q E a vs u n hc hB ha hvs hok hret
    have hf := hc _ (.tail _ (.head _))
    have hcc := hc _ (.tail _ (.tail _ (.head _)))
    clear hc
    refine wpAny_call ?_
    refine' enterE (binds := [(Str.ofString "way", .ref a)]) X0 T0 hB hf ⟨cL, ocL, vsL, tL, rfl, hcc, d1L, d2L⟩ ?room ?bind ?loc ?cell ?co ?gen ?kz ?_
    case room => k_room
    case bind => rfl
    case loc => exact locs rfl
    case cell => decide
    case co => rfl
    case gen => rfl
    case kz => rfl
    intro L' h1 F1 N1 X1 T1
    dsimp only
    k_unmd
    k_fold
    rcases way_cases hvs hok with ⟨x, t, rfl, rfl⟩ | ⟨x, y, t, t2, rfl, rfl⟩
    · have ha' : s.heap.IsList a [Value.str x t].toArray := ⟨_, ha, rfl, _, rfl⟩
      (repeat (first | (k_unfold; (try dsimp only)) | ((fail_if_success (with_reducible show wpAny _ _ (eval (Expr.ListComp _ _ _ _) _) _ _ _)); (first | walk1 | (dsimp only; walk1)))))
      refine' comp1 (cl := []) ?clos ?cell ?kind ?names ?qxx ?_
      case cell => decide
      case clos => with_unfolding_all rfl
      case kind => rfl
      case names => decide
      case qxx => rfl
      k_steps
      rename Fr s.heap L' _ _ => F4
      rename News s.heap L' _ _ => N4
      refine' go_list (fun S i ys h => StrsAre ys (([].map fun z : Str => z ++ Str.ofString "/").take i)) rfl (News.isList N4 (by k_mem)) (by simp) (fun _ _ _ _ _ q _ => q) (fun _ _ _ => .nil) ?turn ?done
      case turn =>
        dsimp only
        intro g hg1 hg2 S i v ys C m₃ nw3 s₃ hi hS0 hSC hS1 hP hJ F3 hm3 N3 hall
        exact absurd hi (Nat.not_lt_zero _)
      case done =>
      intro D5 ys5 h' tk' k5 S e1 e2 e3 hSD hJ
      dsimp only at e1 e2 e3 ⊢
      obtain rfl := strs_nil hJ
      have F5 := F4.keeps e1
      have N5 := news_put F4 (News.grown N4 e1) e3 e2
      clear F4 N4 hSD hJ
      k_steps
      rename News s.heap L' _ _ => N7
      exact hret _ _ _ _ _ (fun b o e => Fr.keep (by k_asm) b o e) (N7 _ (.head _)).2.2 (N7 _ (.head _)).1 (by first | exact .cons _ _ .nil | exact .cons _ _ (.cons _ _ .nil))
    · have ha' : s.heap.IsList a [Value.str x t, Value.str y t2].toArray := ⟨_, ha, rfl, _, rfl⟩
      (repeat (first | (k_unfold; (try dsimp only)) | ((fail_if_success (with_reducible show wpAny _ _ (eval (Expr.ListComp _ _ _ _) _) _ _ _)); (first | walk1 | (dsimp only; walk1)))))
      refine' comp1 (cl := []) ?clos ?cell ?kind ?names ?qxx ?_
      case cell => decide
      case clos => with_unfolding_all rfl
      case kind => rfl
      case names => decide
      case qxx => rfl
      k_steps
      rename Fr s.heap L' _ _ => F4
      rename News s.heap L' _ _ => N4
      refine' go_list (fun S i ys h => StrsAre ys (([x].map fun z : Str => z ++ Str.ofString "/").take i)) rfl (News.isList N4 (by k_mem)) (by simp) (fun _ _ _ _ _ q _ => q) (fun _ _ _ => .nil) ?turn ?done
      case turn =>
        dsimp only
        intro g hg1 hg2 S i v ys C m₃ nw3 s₃ hi hS0 hSC hS1 hP hJ F3 hm3 N3 hall
        obtain rfl : i = 0 := Nat.lt_one_iff.mp hi
        obtain rfl : v = .str x t := (Option.some.inj hP).symm
        obtain ⟨h3, g3, d3, tk3, o3⟩ := s₃
        refine wpAny_pure ⟨CPost.mk' F3 N3 fun _ q => q, ?_⟩
        rw [if_pos rfl]
        dsimp only at *
        have hx100 : x.length ≤ 100 := (okW_small hok x (.head _)).1
        have hx0 : x.length ≠ 0 := by have := (okW_small hok x (.head _)).2; omega
        clear F4 N4
        k_steps
        · exact CPost.mk' (by assumption) (by assumption) fun _ q => q
        · exact strs_snoc hJ _ _
      case done =>
      intro D5 ys5 h' tk' k5 S e1 e2 e3 hSD hJ
      dsimp only at e1 e2 e3 ⊢
      obtain ⟨t9, rfl⟩ := strs_one hJ
      have F5 := F4.keeps e1
      have N5 := news_put F4 (News.grown N4 e1) e3 e2
      clear F4 N4 hSD hJ
      k_steps
      rename News s.heap L' _ _ => N7
      exact hret _ _ _ _ _ (fun b o e => Fr.keep (by k_asm) b o e) (N7 _ (.head _)).2.2 (N7 _ (.head _)).1 (by first | exact .cons _ _ .nil | exact .cons _ _ (.cons _ _ .nil))
  intro D10 h' tk' c10 ys10 ws10 nws10 F11 N11 hx11 hxc sub R10 pm10 so10
  have N10' := fun q hq => N11 q (.tail _ (.tail _ (.tail _ hq)))
  have hx10 : ∀ q ∈ nws10, q.1 ∉ cl6 L := fun q hq z => hx11 q hq (by
    simp only [List.map_cons, List.map_nil, List.mem_cons, List.not_mem_nil, or_false, cl6] at z ⊢
    exact .inr (.inr (.inr z)))
  obtain ⟨nws11, N12, sub11, hx12, all⟩ := regroup6 F11 N10' hx10
  have hD10 : (D10, PySem.W.listOf (List.toArray ys10) c10) ∈ nws11 := all _ _ (N11 _ (.head _)).1 ⟨(N11 _ (.head _)).2.2, (N11 _ (.head _)).2.1, fun z => by
    simp only [cl6, List.mem_cons, List.not_mem_nil, or_false] at z
    rcases z with z | z | z | z | z | z
    · exact hxc _ (.tail _ (.tail _ (.head _))) z.symm
    · exact hxc _ (.tail _ (.tail _ (.tail _ (.head _)))) z.symm
    · exact hxc _ (.tail _ (.tail _ (.tail _ (.tail _ (.head _))))) z.symm
    · exact hxc _ (.tail _ (.tail _ (.tail _ (.tail _ (.tail _ (.head _)))))) z.symm
    · exact hxc _ (.tail _ (.tail _ (.tail _ (.tail _ (.tail _ (.tail _ (.head _))))))) z.symm
    · exact hxc _ (.tail _ (.tail _ (.tail _ (.tail _ (.tail _ (.tail _ (.tail _ (.head _)))))))) z.symm⟩
  have R10 := LR.mono (fun a o q => sub11 _ q) R10
  have sub := fun q hq => sub11 q (sub q hq)
  have hD1 := sub _ hD1
  have R1 := LR.mono (fun a o q => sub _ q) R1
  have hD2 := sub _ hD2
  have R2 := LR.mono (fun a o q => sub _ q) R2
  have hD4 := sub _ hD4
  have R4 := LR.mono (fun a o q => sub _ q) R4
  have hD7 := sub _ hD7
  have hD9 := sub _ hD9
  have R9 := LR.mono (fun a o q => sub _ q) R9
  clear N11 N10' hx11 hx10 hxc all sub11 hx9 hxL d1L d2L l1L l2L
  have okws : ∀ w ∈ PL, OkS w := fun w hw => okW_ok (okP w hw)
  (repeat (first | (k_unfold; (try dsimp only)) | ((fail_if_success (with_reducible show wpAny _ _ (compareOp _ (Value.ref _) (Value.ref _)) _ _ _)); (first | walk1 | (dsimp only; walk1)))))
  rename Fr B L _ _ => F12
  rename News B L _ _ => N12
  refine' ne_same (PySem.IsL.isList (News.get N12 (m6 hD1))) (PySem.IsL.isList (News.get N12 (m6 hD2))) (LR.mono (fun a o q => News.get N12 (m6 q)) R1) (LR.mono (fun a o q => News.get N12 (m6 q)) R2) okws ?hu ?_
  case hu => ((try simp only [Around.deeper_units, PyProof.Rows.units_caller]); decide)
  (repeat (first | (k_unfold; (try dsimp only)) | ((fail_if_success (with_reducible show wpAny _ _ (eval (Expr.ListComp _ _ _ _) _) _ _ _)); (first | walk1 | (dsimp only; walk1)))))
  refine' comp1 (cl := []) ?clos ?cell ?kind ?names ?qxx ?_
  case cell => decide
  case clos => with_unfolding_all rfl
  case kind => rfl
  case names => decide
  case qxx => rfl
  k_steps
  rename Fr B L _ _ => F13
  rename News B L _ _ => N13
  have lenR10 := R10.length
  have lenP10 := pm10.length_eq
  refine' go_list (fun S i ys h => StrsAre ys ((ws10.take i).map pathS)) rfl (PySem.IsL.isList (News.get N13 (m6 hD10))) ?le (fun _ _ _ _ _ q _ => q) (fun _ _ _ => .nil) ?turn ?done
  case le => omega
  case turn =>
    dsimp only
    intro g hg1 hg2 S i v ys C m₃ nw3 s₃ hi hS0 hSC hS1 hP hJ F3 hm3 N3 hall
    obtain ⟨h3, g3, d3, tk3, o3⟩ := s₃
    refine wpAny_pure ⟨CPost.mk' F3 N3 fun _ q => q, ?_⟩
    rw [if_pos rfl]
    dsimp only at *
    obtain ⟨u, hu⟩ : ∃ u, ws10[i]? = some u := ⟨_, List.getElem?_eq_getElem (by omega)⟩
    obtain ⟨a, vs, n, hv2, hr, hvs⟩ := R10.at hu
    obtain rfl : v = .ref a := Option.some.inj (hP.symm.trans hv2)
    have hga : g.IsList a vs.toArray := PySem.IsL.isList (hg1 _ _ (News.get N13 (m6 hr)))
    have oku := okW4 u (pm10.mem_iff.mp (List.mem_of_getElem? hu))
    have osm := okW_small oku
    rw [take_snoc hu]
    clear F13 N13 hP hv2 hr
    rcases way_cases hvs oku with ⟨x, t, rfl, rfl⟩ | ⟨x, y, t, t2, rfl, rfl⟩
    · have p1 : x.length ≤ 100 := (osm x (.head _)).1
      k_steps
      · exact CPost.mk' F3 N3 fun _ q => q
      · exact strs_snoc hJ _ _
    · have p1 : x.length ≤ 100 := (osm x (.head _)).1
      have p2 : y.length ≤ 100 := (osm y (.tail _ (.head _))).1
      k_steps
      · exact CPost.mk' F3 N3 fun _ q => q
      · rw [join2]; exact strs_snoc hJ _ _
  case done =>
  intro D13 ys13 h' tk' k13 S e1 e2 e3 hSD hJ
  dsimp only at e1 e2 e3 ⊢
  have F14 := F13.keeps e1
  obtain ⟨nws14, N14, sub, hx14, all⟩ := regroup6 F14 (News.grown N13 e1) hx12
  have hD13 := all _ _ e3 (out_of F13 N13 e2)
  have hD4 := sub _ hD4
  have R4 := LR.mono (fun a o q => sub _ q) R4
  have hD7 := sub _ hD7
  have hD9 := sub _ hD9
  have R9 := LR.mono (fun a o q => sub _ q) R9
  have e7 : xs7 = ws10.map pathS := texts_due hj inW4 pm7 so7 pm10 so10
  have R13 : StrsAre ys13 xs7 := by
    rw [e7]
    rwa [lenR10, List.take_length] at hJ
  have ok7 : OkS xs7 := fun x hx => by
    obtain ⟨w, hw, rfl⟩ := List.mem_map.mp (pm7.mem_iff.mp hx)
    exact paths_ok hj w (inW4 w hw)
  clear F13 N13 e1 e2 e3 hJ hSD all sub hx12 hD1 hD2 R1 R2 okws
  (repeat (first | (k_unfold; (try dsimp only)) | ((fail_if_success (with_reducible show wpAny _ _ (compareOp _ (Value.ref _) (Value.ref _)) _ _ _)); (first | walk1 | (dsimp only; walk1)))))
  refine' same_strs (PySem.IsL.isList (News.get N14 (m6 hD7))) (PySem.IsL.isList (News.get N14 (m6 hD13))) R7 R13 ok7 ?hu ?_
  case hu => ((try simp only [Around.deeper_units, PyProof.Rows.units_caller]); decide)
  (repeat (first | (k_unfold; (try dsimp only)) | ((fail_if_success (with_reducible show wpAny _ _ (eval (Expr.ListComp _ _ _ _) _) _ _ _)); (first | walk1 | (dsimp only; walk1)))))
  refine' comp1 (cl := [(Str.ofString "lists", L + 1 + 1 + 1 + 1)]) ?clos ?cell ?kind ?names ?qxx ?_
  case cell => decide
  case clos => with_unfolding_all rfl
  case kind => rfl
  case names => decide
  case qxx => rfl
  k_steps
  have len7 := R7.length
  have len7b := pm7.length_eq
  rw [List.length_map] at len7b
  have lenR9 := R9.length
  have len9b := pm9.length_eq
  refine' go_list (fun S i ys h => IntsAre ys ((xs7.take i).map fun x => ((ws9.map pathS).idxOf x : Int))) rfl (PySem.IsL.isList (News.get N14 (m6 hD7))) ?le (fun _ _ _ _ _ q _ => q) (fun _ _ _ => .nil) ?turn ?done
  case le => omega
  case turn =>
    dsimp only
    intro g hg1 hg2 S i v ys C m₃ nw3 s₃ hi hS0 hSC hS1 hP hJ F3 hm3 N3 hall
    obtain ⟨h3, g3, d3, tk3, o3⟩ := s₃
    refine wpAny_pure ⟨CPost.mk' F3 N3 fun _ q => q, ?_⟩
    rw [if_pos rfl]
    dsimp only at *
    obtain ⟨x, t, hx, rfl⟩ : ∃ x t, xs7[i]? = some x ∧ v = .str x t := by
      obtain ⟨x, t, h1, h2⟩ := strs_get R7 hi
      exact ⟨x, t, h1, Option.some.inj (hP.symm.trans ((List.getElem?_eq_getElem hi).trans (congrArg some h2)))⟩
    have c4 : CellIs g (L + 1 + 1 + 1 + 1) (.ref D9) := ⟨_, hg1 _ _ (News.get N14 (by k_mem)), by assumption⟩
    have M9 : g.IsList D9 ys9.toArray := PySem.IsL.isList (hg1 _ _ (News.get N14 (m6 hD9)))
    have G9 : LR (fun a o => g.get? a = some o) ys9 ws9 := R9.mono fun a o q => hg1 _ _ (News.get N14 (m6 q))
    have hxm : x ∈ ws9.map pathS := by
      have h1 := pm7.mem_iff.mp (List.mem_of_getElem? hx)
      obtain ⟨w, hw, e⟩ := List.mem_map.mp h1
      exact List.mem_map.mpr ⟨w, pm9.mem_iff.mpr hw, e⟩
    have okW9 : ∀ w ∈ ws9, okW w = true := fun w hw => okW4 w (pm9.mem_iff.mp hw)
    rw [take_snoc hx]
    clear F14 N14 hP
    (repeat (first | (k_unfold; (try dsimp only)) | ((fail_if_success (with_reducible show wpAny _ _ (eval (Expr.ListComp _ _ _ _) _) _ _ _)); (first | walk1 | (dsimp only; walk1)))))
    refine' comp1 (cl := []) ?clos ?cell ?kind ?names ?qxx ?_
    case cell => decide
    case clos => with_unfolding_all rfl
    case kind => rfl
    case names => decide
    case qxx => rfl
    k_steps
    refine' go_list (fun S i ys h => StrsAre ys ((ws9.take i).map pathS)) rfl (M9.at fun o e => F3.keep _ o e) (by omega) (fun _ _ _ _ _ q _ => q) (fun _ _ _ => .nil) ?turn2 ?done2
    case turn2 =>
      dsimp only
      intro g' hg1' hg2' S' i' v' ys' C' m' nw' s' hi' hS0' hSC' hS1' hP' hJ' F' hm' N' hall'
      obtain ⟨h4, g4, d4, tk4, o4⟩ := s'
      refine wpAny_pure ⟨CPost.mk' F' N' fun _ q => q, ?_⟩
      rw [if_pos rfl]
      dsimp only at *
      obtain ⟨u, hu⟩ : ∃ u, ws9[i']? = some u := ⟨_, List.getElem?_eq_getElem (by omega)⟩
      obtain ⟨a, vs, n, hv2, hr, hvs⟩ := G9.at hu
      obtain rfl : v' = .ref a := Option.some.inj (hP'.symm.trans hv2)
      have hga : g'.IsList a vs.toArray := PySem.IsL.isList (hg1' _ _ (F3.keep _ _ hr))
      have oku := okW9 u (List.mem_of_getElem? hu)
      have osm := okW_small oku
      rw [take_snoc hu]
      clear F3 N3 hP' hv2 hr
      rcases way_cases hvs oku with ⟨x, t, rfl, rfl⟩ | ⟨x, y, t, t2, rfl, rfl⟩
      · have p1 : x.length ≤ 100 := (osm x (.head _)).1
        k_steps
        · exact CPost.mk' F' N' fun _ q => q
        · exact strs_snoc hJ' _ _
      · have p1 : x.length ≤ 100 := (osm x (.head _)).1
        have p2 : y.length ≤ 100 := (osm y (.tail _ (.head _))).1
        k_steps
        · exact CPost.mk' F' N' fun _ q => q
        · rw [join2]; exact strs_snoc hJ' _ _
    case done2 =>
    intro D16 ys16 h16 tk16 k16 S16 i1 i2 i3 _ hJ16
    dsimp only at i1 i2 i3 ⊢
    have R16 : StrsAre ys16 (ws9.map pathS) := by rwa [lenR9, List.take_length] at hJ16
    have F16 := F3.keeps i1
    have N16 := news_put F3 (News.grown N3 i1) i3 i2
    have len16 := R16.length
    rw [List.length_map] at len16
    clear F3 N3 hJ16 M9 G9
    (repeat (first | (k_unfold; (try dsimp only)) | ((fail_if_success (with_reducible show wpAny _ _ (getMethod (Value.ref _) _ _) _ _ _)); (first | walk1 | (dsimp only; walk1)))))
    ((k_dflt (refine meth_index (News.get (by k_asm) (by k_mem)) ?_)))
    (repeat (first | (k_unfold; (try dsimp only)) | ((fail_if_success (with_reducible show wpAny _ _ (call (Value.builtin "list.index") _ _) _ _ _)); (first | walk1 | (dsimp only; walk1)))))
    ((k_dflt ((refine' index_strs ?il ?iH ?ik ?iz ?_); (case il => exact News.isList (by k_asm) (by k_mem)); (case iH => assumption); (case ik => assumption); (case iz => omega); k_whole; intro tk' t')))
    k_steps
    · exact CPost.mk' F16 N16 fun _ q => .tail _ q
    · exact ksk_snoc hJ
  case done =>
  intro D15 ys15 h' tk' k15 S e1 e2 e3 hSD hJ
  dsimp only at e1 e2 e3 ⊢
  have F15 := F14.keeps e1
  obtain ⟨nws15, N15, sub, hx15, all⟩ := regroup6 F15 (News.grown N14 e1) hx14
  have hD15 := all _ _ e3 (out_of F14 N14 e2)
  have hD4 := sub _ hD4
  have R4 := LR.mono (fun a o q => sub _ q) R4
  obtain ⟨rk, hrk⟩ : ∃ rk : List Int, rk = xs7.map fun x => ((ws9.map pathS).idxOf x : Int) := ⟨_, rfl⟩
  have I15 : IntsAre ys15 rk := by
    rw [hrk]
    rwa [len7, List.take_length] at hJ
  have lenI15 := I15.length
  have lenrk : rk.length = WS.length := by rw [hrk, List.length_map]; omega
  clear F14 N14 e1 e2 e3 hJ hSD all sub hx14 hD7 R7 hD9 R9 hD13 R13 ok7 len7 len7b lenR9 len9b
  (repeat (first | (k_unfold; (try dsimp only)) | ((fail_if_success (with_reducible show wpAny _ _ (exec (Stmt.Assign _ (PySem.Expr.ListComp ..) _) _) _ _ _)); (first | walk1 | (dsimp only; walk1)))))
  refine' assign_comp2 (cl := [(Str.ofString "places", L + 1 + 1 + 1 + 1 + 1)]) ?sw ?clos ?cell ?kind ?names ?qxx ?y2 ?xy ?hh2 ?hy ?hp ?_
  case sw => with_unfolding_all rfl
  case cell => decide
  case clos => with_unfolding_all rfl
  case kind => rfl
  case names => decide
  case qxx => rfl
  case y2 => rfl
  case xy => decide
  case hh2 => rfl
  case hy => rfl
  case hp => rfl
  k_steps
  rename Fr B L _ _ => F16
  rename News B L _ _ => N16
  refine ⟨_, F16.ns, ?_⟩
  refine' go_range2 (n := rk.length) (cntA rk) rfl (by assumption) ?sm ?sz (by omega) ?cnt ?turn ?done
  case sm => exact small_one (by decide) (by decide) (by omega) (by omega)
  case sz => first | (rw [rangeSize_nat, Int.sub_zero]; simp) | (rw [rangeSize_nat, Int.sub_zero, lenI15]; simp)
  case cnt => exact fun i hi => Nat.le_trans (cntA_le _ _) (by omega)
  case turn =>
    intro g C hg1 hg2 i v1 m₃ nw3 s₃ hi hP F3 hm3 N3 hall
    obtain ⟨t', rfl⟩ := hP
    obtain ⟨h3, g3, d3, tk3, o3⟩ := s₃
    dsimp only at *
    have c5 : CellIs g (L + 1 + 1 + 1 + 1 + 1) (.ref D15) := ⟨_, hg1 _ _ (News.get N16 (by k_mem)), by assumption⟩
    have M15 : g.IsList D15 ys15.toArray := PySem.IsL.isList (hg1 _ _ (News.get N16 (m6 hD15)))
    have ei : (0 : Int) + (i : Int) * 1 = (i : Int) := by omega
    clear F16 N16
    k_steps
    rename Fr g C _ _ => F5
    rename News g C _ _ => N5
    rename IntsAre ys15 rk => I15
    rename (∀ p ∈ nw3, p.1 < _) => hlt
    obtain ⟨n1, t1, hv1, hn1⟩ : ∃ n t, ys15[i]? = some (.int n t) ∧ rk[i]? = some n := by
      have hi' : i < ys15.length := by omega
      obtain ⟨n, t, h1, h2⟩ := ints_at I15 (List.getElem?_eq_getElem hi')
      exact ⟨n, t, by rw [List.getElem?_eq_getElem hi', h1], h2⟩
    have e1 : rk.getD i 0 = n1 := by rw [List.getD_eq_getElem?_getD, hn1]; rfl
    refine ⟨CP.mk' F5 N5 fun _ q => .tail _ q, _, ys15.take i, fun j => decide (rk.getD j 0 > rk.getD i 0), rfl, (N5 _ (.head _)).2.1, News.isList N5 (.head _), fun _ => ?_, by rw [List.length_take]; omega, ?_, ?_⟩
    · cases z : Heap.get? h3 _ with
      | none => rfl
      | some o =>
        rcases hall _ o z with q | q | q
        · exact absurd q (N5 _ (.head _)).2.1
        · rw [(N5 _ (.head _)).2.2] at q; cases q
        · exact absurd (hlt _ q) (Nat.lt_irrefl _)
    · unfold cntA
      rw [List.length_take, List.length_take, lenI15]
    · intro j2 v2 m₄ nw5 s₅ hj2 hv2 F6 hmk hmp N6
      obtain ⟨h6, g6, d6, tk6, o6⟩ := s₅
      dsimp only at *
      rw [List.length_take] at hj2
      rw [List.getElem?_take, if_pos (by omega)] at hv2
      obtain ⟨n2, t2, rfl, hn2⟩ := ints_at I15 hv2
      have e2 : rk.getD j2 0 = n2 := by rw [List.getD_eq_getElem?_getD, hn2]; rfl
      clear F3 N3 F5 N5 hlt hall
      rw [e1, e2]
      refine ifs_one ?_
      k_steps
      · exact CP.mk' F6 N6 fun _ q => q
      · exact CP.mk' F6 N6 fun _ q => q
  case done =>
  intro D16 ys16 h' tk' k16 e1 e2 e3 hlen16
  dsimp only at e1 e2 e3 ⊢
  intro h'' hsb hns2
  (try dsimp only at hsb hns2 ⊢)
  have F17 := F16.keeps e1
  obtain ⟨nws17, N17, sub, hx17, all⟩ := regroup6 F17 (News.grown N16 e1) hx15
  have hD16 := all _ _ e3 (out_of F16 N16 e2)
  have F17 := Fr.set F17 hns2 hsb
  have N17 := news_set N17 hsb
  have hD4 := sub _ hD4
  have R4 := LR.mono (fun a o q => sub _ q) R4
  clear F16 N16 e1 e2 e3 all sub hns2 hsb hx15 hD15
  have le16 : ys16.length ≤ 200 := by rw [hlen16]; exact Nat.le_trans (total_le (cntA_le rk) _) (Nat.le_trans (Nat.mul_le_mul (show rk.length ≤ 10 by omega) (show rk.length ≤ 10 by omega)) (by decide))
  (repeat (first | (k_unfold; (try dsimp only)) | ((fail_if_success (with_reducible show wpAny _ _ (eval (Expr.ListComp _ _ _ _) _) _ _ _)); (first | walk1 | (dsimp only; walk1)))))
  refine' comp2 (cl := [(Str.ofString "ways", L + 1 + 1 + 1)]) ?clos ?cell ?kind ?names ?qxx ?y2 ?xy ?hh2 ?_
  case cell => decide
  case clos => with_unfolding_all rfl
  case kind => rfl
  case names => decide
  case qxx => rfl
  case y2 => rfl
  case xy => decide
  case hh2 => rfl
  k_steps
  rename Fr B L _ _ => F18
  rename News B L _ _ => N18
  refine' go_list2 (cntB WS) rfl (PySem.IsL.isList (News.get N18 (m6 hD4))) (by omega) ?cnt ?turn ?done
  case cnt => exact fun i hi => Nat.le_trans (cntB_le _ _) (by omega)
  case turn =>
    intro g C hg1 hg2 i v1 m₃ nw3 s₃ hi hP F3 hm3 N3 hall
    obtain ⟨h3, g3, d3, tk3, o3⟩ := s₃
    dsimp only at *
    have c3 : CellIs g (L + 1 + 1 + 1) (.ref D4) := ⟨_, hg1 _ _ (News.get N18 (by k_mem)), by assumption⟩
    have M4 : g.IsList D4 ys4.toArray := PySem.IsL.isList (hg1 _ _ (News.get N18 (m6 hD4)))
    have G4 : LR (fun a o => g.get? a = some o) ys4 WS := R4.mono fun a o q => hg1 _ _ (News.get N18 (m6 q))
    have Xg := X0.keeps (stays_trans F18.keep hg1)
    have Tg := T0.keeps (stays_trans F18.keep hg1)
    clear F18 N18
    k_steps
    obtain ⟨u1, hu1⟩ : ∃ u, WS[i]? = some u := ⟨_, List.getElem?_eq_getElem (by omega)⟩
    obtain ⟨a1, vs1, n1, hv1, hr1, hs1⟩ := G4.at hu1
    obtain rfl : v1 = .ref a1 := Option.some.inj (hP.symm.trans hv1)
    have ok1 := okW4 u1 (List.mem_of_getElem? hu1)
    have e1 : WS.getD i [] = u1 := by rw [List.getD_eq_getElem?_getD, hu1]; rfl
    refine ⟨CP.mk' F3 N3 fun _ q => q, D4, ys4, fun j => turnedS (WS.getD i []) (WS.getD j []), rfl, ?_, M4.at fun o e => F3.keep _ o e, fun z => ?_, by omega, ?_, ?_⟩
    · rintro rfl
      obtain ⟨o, e, _⟩ := M4
      exact absurd (Heap.lt_size e) (Nat.not_lt.mpr F3.above)
    · obtain ⟨o, e, _⟩ := M4
      rw [e] at z; cases z
    · unfold cntB
      rw [lenR4]
    · intro j2 v2 m₄ nw5 s₅ hj2 hv2 F6 hmk hmp N6
      obtain ⟨h6, g6, d6, tk6, o6⟩ := s₅
      dsimp only at *
      obtain ⟨u2, hu2⟩ : ∃ u, WS[j2]? = some u := ⟨_, List.getElem?_eq_getElem (by omega)⟩
      obtain ⟨a2, vs2, n2, hv3, hr2, hs2⟩ := G4.at hu2
      obtain rfl : v2 = .ref a2 := Option.some.inj (hv2.symm.trans hv3)
      have ok2 := okW4 u2 (List.mem_of_getElem? hu2)
      have e2 : WS.getD j2 [] = u2 := by rw [List.getD_eq_getElem?_getD, hu2]; rfl
      clear F3 N3 hall
      rw [e1, e2]
      refine ifs_one ?_
      (repeat (first | (k_unfold; (try dsimp only)) | ((fail_if_success (with_reducible show wpAny _ _ (call (Value.ref 209) _) _ _ _)); (first | walk1 | (dsimp only; walk1)))))
      refine' turned_K Xg Tg _ _ _ _ a1 a2 vs1 vs2 u1 u2 hs1 hs2 (okW_ok ok1) (okW_ok ok2) ⟨_, hr1, rfl, _, rfl⟩ ⟨_, hr2, rfl, _, rfl⟩ (okW_len ok1).1 (okW_len ok2).1 (fun x hx => (okW_small ok1 x hx).1) (fun x hx => (okW_small ok2 x hx).1) ?wqa (Fr.keep (by k_asm)) ?wqc ?wqd ?_
      case wqa => exact rfl
      case wqc => ((try simp only [depth_deeper, PyProof.Rows.depth_caller]); (try dsimp only); omega)
      case wqd => ((try simp only [Around.deeper_units, PyProof.Rows.units_caller]); decide)
      intro h7 tk7 hs7
      have F7 := F6.keeps hs7
      have N7 := News.grown N6 hs7
      clear F6 N6
      k_steps
      · exact CP.mk' F7 N7 fun _ q => q
      · exact CP.mk' F7 N7 fun _ q => q
  case done =>
  intro D17 ys17 h' tk' k17 e1 e2 e3 hlen17
  dsimp only at e1 e2 e3 ⊢
  have F19 := F18.keeps e1
  have N19 := News.grown N18 e1
  have le17 : ys17.length ≤ 200 := by rw [hlen17]; exact Nat.le_trans (total_le (cntB_le WS) _) (Nat.le_trans (Nat.mul_le_mul (show ys4.length ≤ 10 by omega) (show WS.length ≤ 10 by omega)) (by decide))
  clear F18 N18
  (repeat (first | (k_unfold; (try dsimp only)) | ((fail_if_success (with_reducible show wpAny _ _ (call (Value.builtin "len") _ _) _ _ _)); (first | walk1 | (dsimp only; walk1)))))
  refine' s_len ⟨_, e3, rfl, _, rfl⟩ (by omega) ?_
  intro t17 tk17
  repeat (first | (k_unfold; (try dsimp only)) | walk1 | (dsimp only; walk1))
  have hfin : ys16.length = ys17.length := by rw [hlen16, hlen17, lenR4]; exact final_eq hj inW4 nd4 pm9 so9 pm10 so7 e7 hrk
  have hb : ((ys16.length : Int) == (ys17.length : Int)) = true := by rw [hfin]; simp
  rw [hb]
  refine goodW_bool F19 (by assumption) (raisesW_false ?_) ?_
  · wrow_none_raised
  · refine postW_of (by wrow_shape) (w_eq_bool (w_res rfl) w_lit) ?_
    clear F19 N19
    rfl
  walk1
end
end Mine
end
end
theorem PySem.Challenge.cw_ik0041_01_holds : PySem.Challenge.rw_ik0041_01.Holds :=
  Mine.law_holds
