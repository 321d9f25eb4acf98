import PyProof.Rows.All
import Wide.All
import OpenK.AllK
import Wide.FinOn
import Lean
import PySem.Challenge.RW_ik0002_02
open PySem PySem.W PyProof.Rows
set_option Elab.async false
local macro_rules | `(tactic| walk_at $s:str) => `(tactic| k_extra $s)
section
open PySem PySem.W PyProof.Rows
set_option maxRecDepth 100000
set_option maxHeartbeats 8000000
namespace Mine
noncomputable def cells : List Stmt → List Stmt
  | [_, a, _, b, c, _, _, d, e, f, g, h, i, j] => [a, b, c, d, e, f, g, h, i, j]
  | l => l
noncomputable def view2 : Program := { PySem.Challenge.pw_ik0002_02 with main := { PySem.Challenge.pw_ik0002_02.main with body := cells PySem.Challenge.pw_ik0002_02.main.body } }
end Mine
set_option hygiene false in
local macro_rules | `(tactic| o_head $H) => `(tactic| (
  refine holds_open (q := Mine.view2) (loose := [Str.ofString "_initial_missing", Str.ofString "reduce"]) (Xt := fun s => xlAt Mine.view2 [] s && recOk (RowW.records (OpenRow.toRowW (OpenLaw.row PySem.Challenge.rw_ik0002_02))) s) (XP := XL Mine.view2 []) (Yf := Hook.obs $H) (Ya := Hook.val $H) (YP := Hook.says $H) (N := 1462) ?hl (Hook.of $H) (Hook.keeps $H) (fun s e => xl_of s (Bool.and_eq_true_iff.mp e).1) XL.keeps (by rfl) (by rfl) (by rfl) (fun s e => recFacts_of (Bool.and_eq_true_iff.mp e).2) (by rfl) (by first | assumption | decide +kernel) (by decide +kernel) ⟨rfl, rfl, rfl, rfl, rfl, by decide +kernel⟩ ?hw ?hc
  case hl => (intro w; kernel_rfl)))
namespace Mine
open_top hd2 for PySem.Challenge.rw_ik0002_02
theorem topOff : True := by
  w_top off
  trivial
end Mine
end
section
open PySem PySem.W PyProof.Rows PySem.Calls
set_option maxRecDepth 100000
namespace Mine

noncomputable def lvl (k : Nat) : Around := { handled := none, depth := 310 + 20 * k, frames := none, guards := none, units := 100 + 100 * k }

theorem codeAny_lvl {M : Model} {A : Around} {c : Code} {R : Result → Shared → Prop} {s : Shared} (k : Nat) (h : codeAny M (lvl k) c R s)
    (hh : A.handled = none) (hd : A.depth ≤ (lvl k).depth) (hu : A.units ≤ (lvl k).units) : codeAny M A c R s := by
  intro Γ p hc hΓ
  refine h Γ p hc ⟨hΓ.1.trans hh, Nat.le_trans hΓ.2.1 hd, fun l hl => ?_, fun l hl => ?_, Nat.le_trans hΓ.2.2.2.2 hu⟩
  · cases hl
  · cases hl

theorem codeAny_mono' {M : Model} {A : Around} {c : Code} {R R' : Result → Shared → Prop} {s : Shared} (h : codeAny M A c R s) (hR : ∀ r s', R r s' → R' r s') : codeAny M A c R' s :=
  fun Γ p hc hΓ => wpCode_mono hR (h Γ p hc hΓ)

noncomputable def Does (prog : Program) (w : World) (k : Nat) (f : Value) (args : List Value) (s : Shared) (Post : Value → Heap → Prop) : Prop :=
  ∀ R : Result → Shared → Prop, (∀ v h' tk', Post v h' → R (.ok (.ret v)) { s with heap := h', toks := tk' }) → codeAny (model prog w) (lvl k) (.call f ⟨args, []⟩) R s

section
variable {prog : Program} {w : World} {k : Nat} {f : Value} {args : List Value} {s : Shared} {Post : Value → Heap → Prop} {A : Around}

theorem Does.code {R : Result → Shared → Prop} (D : Does prog w k f args s Post) (hh : A.handled = none) (hd : A.depth ≤ (lvl k).depth) (hu : A.units ≤ (lvl k).units)
    (h : ∀ v h' tk', Post v h' → R (.ok (.ret v)) { s with heap := h', toks := tk' }) : codeAny (model prog w) A (.call f ⟨args, []⟩) R s :=
  codeAny_lvl k (D R h) hh hd hu
theorem Does.call {Q E : _} (D : Does prog w k f args s Post)
    (h : ∀ v h' tk', Post v h' → Q v { s with heap := h', toks := tk' }) (hh : A.handled = none := by exact rfl) (hd : A.depth ≤ (lvl k).depth := by exact Nat.le_of_ble_eq_true rfl) (hu : A.units ≤ (lvl k).units := by exact Nat.le_of_ble_eq_true rfl) : wpAny (model prog w) A (call f args) Q E s :=
  wpAny_call (D.code hh hd hu fun v h' tk' p => h v h' tk' p)
theorem Does.mono {Post' : Value → Heap → Prop} (D : Does prog w k f args s Post) (h : ∀ v h', Post v h' → Post' v h') : Does prog w k f args s Post' :=
  fun R hR => D R fun v h' tk' p => hR v h' tk' (h v h' p)
end

structure Base (K : Frag) (H h : Heap) : Prop where
  X : K.In H
  T : ∃ p loose mean mg mb, Top p loose mean mg mb H
  up : ∀ b o, H.get? b = some o → h.get? b = some o

noncomputable def Stays (S : List Addr) (h h' : Heap) : Prop := ∀ b o, h.get? b = some o → b ∉ S → h'.get? b = some o

theorem Stays.refl (S : List Addr) (h : Heap) : Stays S h h := fun _ _ e _ => e
theorem Stays.trans {S : List Addr} {a b c : Heap} (x : Stays S a b) (y : Stays S b c) : Stays S a c := fun d o e n => y d o (x d o e n) n
theorem Stays.weaken {S S' : List Addr} {a b : Heap} (x : Stays S a b) (h : ∀ d ∈ S, d ∈ S') : Stays S' a b := fun d o e n => x d o e fun m => n (h d m)

theorem Stays.drop {S S' : List Addr} {h h' : Heap} {a : Addr} {o : Obj} (st : Stays S h h') (e : h.get? a = some o) (e' : h'.get? a = some o) (hS : ∀ b ∈ S, b ≠ a → b ∈ S') : Stays S' h h' := fun b ob eb hb => by
  by_cases q : b = a
  · subst q; rw [e] at eb; cases eb; exact e'
  · exact st b ob eb fun hm => hb (hS b hm q)
theorem Base.keeps {K : Frag} {H h h' : Heap} {S : List Addr} (B : Base K H h) (st : Stays S h h') (hS : ∀ a ∈ S, H.get? a = none) : Base K H h' :=
  ⟨B.X, B.T, fun b o e => st b o (B.up b o e) fun m => by rw [hS b m] at e; cases e⟩

theorem enter {prog : Program} {w : World} {A : Around} {K : Frag} {H : Heap} {s : Shared} {R : Result → Shared → Prop} {name qual : Str} {params : Arguments} {body : List Stmt} {scope : Scope}
    {dV kV doc pm cdv ct oc : Value} {an od : Option Addr} {osl : Array (Option Value)} {f : Addr} {args : Args} {binds : List (Str × Value)} {muts : List (Addr × Obj)}
    (B : Base K H s.heap) (mu : ∀ q ∈ muts, s.heap.get? q.1 = some q.2 ∧ H.get? q.1 = none)
    (ho : K.lookup f = some ⟨oc, od, .func (fnOf name qual params body scope dV kV doc pm an cdv ct), osl⟩) (hcd : codeIn K cdv qual = true) (hroom : A.depth < recursionLimit)
    (hbind : BindsTo s (fnOf name qual params body scope dV kV doc pm an cdv ct) args binds) (hloc : ∀ y ∈ binds, scope.names.lookup y.1 = some .local)
    (hcell : ∀ x ∈ scope.names, x.2 ≠ .cell) (hco : scope.isCoroutine = false) (hgen : scope.isGenerator = false) (hk : scope.kind = .function)
    (h : ∀ g L h₁ p loose mean mg mb, K.In g → Top p loose mean mg mb g → Fr g L h₁ (fun y => binds.reverse.lookup y) → News g L h₁ muts → (∀ q ∈ muts, q.1 < L) →
      (∀ b o, s.heap.get? b = some o → b ∉ muts.map (·.1) → g.get? b = some o) → L = s.heap.objs.size → (∀ b o, H.get? b = some o → g.get? b = some o) →
      wpAny (model prog w) (A.deeper (envOf qual scope L f cdv)) (execs body (envOf qual scope L f cdv))
        (fun fl s' => R (.ok (.ret (match fl with | .ret v => v | _ => .none))) s') (fun _ _ => False)
        { s with heap := h₁, toks := s.toks + binds.length }) : codeAny (model prog w) A (.call (.ref f) args) R s := by
  obtain ⟨p, loose, mean, mg, mb, T⟩ := B.T
  have lift : ∀ b o, H.get? b = some o → (hideAll s.heap (muts.map (·.1))).get? b = some o := fun b o e =>
    hideAll_get _ (B.up b o e) fun hm => by
      obtain ⟨q, hq, rfl⟩ := List.mem_map.mp hm
      rw [(mu q hq).2] at e; cases e
  refine codeAny_call_def (fd := fnOf name qual params body scope dV kV doc pm an cdv ct) (body := body) (binds := binds) hroom ((B.X.keeps B.up) _ _ ho) rfl (T.nolimit.keeps B.up) (codeRec_of (B.X.keeps B.up) hcd) rfl hbind hcell hloc (fun h₁ hns hk₁ => ?_) hco hgen hk
  refine wpAny_mono (h (hideAll s.heap (muts.map (·.1))) s.heap.objs.size h₁ p loose mean mg mb (B.X.keeps lift) (T.keeps lift) ⟨hns, fun b o e => hk₁ b o (of_hideAll _ e), Nat.le_of_eq (hideAll_size _ _)⟩
    (fun q hq => ⟨hk₁ _ _ (mu q hq).1, Nat.ne_of_lt (Heap.lt_size (mu q hq).1), hideAll_none _ (List.mem_map_of_mem hq)⟩) (fun q hq => Heap.lt_size (mu q hq).1)
    (fun b o e hn => hideAll_get _ e hn) rfl lift) (fun _ _ y => y) fun _ _ y => y.elim

theorem enterC {prog : Program} {w : World} {A : Around} {K : Frag} {H : Heap} {s : Shared} {R : Result → Shared → Prop} {name qual : Str} {params : Arguments} {body : List Stmt} {scope : Scope}
    {dV kV doc pm cdv ct oc : Value} {an od : Option Addr} {osl : Array (Option Value)} {f : Addr} {args : Args} {binds : List (Str × Value)} {muts : List (Addr × Obj)}
    (B : Base K H s.heap) (mu : ∀ q ∈ muts, s.heap.get? q.1 = some q.2 ∧ H.get? q.1 = none)
    (ho : K.lookup f = some ⟨oc, od, .func (fnOf name qual params body scope dV kV doc pm an cdv ct), osl⟩) (hcd : codeIn K cdv qual = true) (hroom : A.depth < recursionLimit)
    (hbind : BindsTo s (fnOf name qual params body scope dV kV doc pm an cdv ct) args binds)
    (hkind : (binds.all fun y => scope.names.lookup y.1 == some .local || scope.names.lookup y.1 == some .cell) = true)
    (hnd : ((cellsFrom 0 scope.names []).map (·.1)).Nodup)
    (hco : scope.isCoroutine = false) (hgen : scope.isGenerator = false) (hk : scope.kind = .function)
    (h : ∀ g L h₁ tk cells p loose mean mg mb, K.In g → Top p loose mean mg mb g → Fr g L h₁ (bindL (envOfC qual scope L f cdv).kindOf binds fun _ => none) → News g L h₁ (cells ++ muts) →
      CellsAre (bindC (envOfC qual scope L f cdv).kindOf binds fun _ => none) (cellsFrom (L + 1) scope.names []) cells → (∀ q ∈ muts, q.1 < L) →
      (∀ b o, s.heap.get? b = some o → b ∉ muts.map (·.1) → g.get? b = some o) → L = s.heap.objs.size → (∀ b o, H.get? b = some o → g.get? b = some o) →
      wpAny (model prog w) (A.deeper (envOfC qual scope L f cdv)) (execs body (envOfC qual scope L f cdv))
        (fun fl s' => R (.ok (.ret (match fl with | .ret v => v | _ => .none))) s') (fun _ _ => False)
        { s with heap := h₁, toks := tk }) : codeAny (model prog w) A (.call (.ref f) args) R s := by
  obtain ⟨p, loose, mean, mg, mb, T⟩ := B.T
  have lift : ∀ b o, H.get? b = some o → (hideAll s.heap (muts.map (·.1))).get? b = some o := fun b o e =>
    hideAll_get _ (B.up b o e) fun hm => by
      obtain ⟨q, hq, rfl⟩ := List.mem_map.mp hm
      rw [(mu q hq).2] at e; cases e
  refine codeAny_call_function (fd := fnOf name qual params body scope dV kV doc pm an cdv ct) hroom ((B.X.keeps B.up) _ _ ho) rfl hco hgen rfl (codeRec_of (B.X.keeps B.up) hcd) (hbind _ _ _ _ ?_)
  refine wpAny_newFunctionEnv_cells hk (kindsX hkind _) fun env' he s' x => ?_
  subst he
  refine ⟨((T.nolimit.keeps B.up)).keeps x.toInCall.keep, codeAny_func ?_⟩
  obtain ⟨h₁, tk, rfl, _⟩ := x.done
  have hk₁ := x.toInCall.keep
  obtain ⟨cells, NC, Y⟩ := Cl.news (h₀ := s.heap) (Nat.le_refl _) fun n c hm => ⟨x.cell n c (lookup_of_mem_nodup (cellsFrom_names scope.names 0 (s.heap.objs.size + 1) [] [] rfl ▸ hnd) hm), x.above n c hm⟩
  refine wpAny_mono (h (hideAll s.heap (muts.map (·.1))) s.heap.objs.size h₁ tk cells p loose mean mg mb (B.X.keeps lift) (T.keeps lift) ⟨x.toInCall.ns, fun b o e => hk₁ b o (of_hideAll _ e), Nat.le_of_eq (hideAll_size _ _)⟩ (fun p hp => ?_) Y
    (fun q hq => Heap.lt_size (mu q hq).1) (fun b o e hn => hideAll_get _ e hn) rfl lift) (fun _ _ y => y) fun _ _ y => y.elim
  rcases List.mem_append.mp hp with hp | hp
  · refine ⟨(NC p hp).1, (NC p hp).2.1, ?_⟩
    cases q : (hideAll s.heap (muts.map (·.1))).get? p.1 with
    | none => rfl
    | some o => have := of_hideAll _ q; rw [(NC p hp).2.2] at this; cases this
  · exact ⟨hk₁ _ _ (mu p hp).1, Nat.ne_of_lt (Heap.lt_size (mu p hp).1), hideAll_none _ (List.mem_map_of_mem hp)⟩

theorem enterL {prog : Program} {w : World} {A : Around} {K : Frag} {H : Heap} {s : Shared} {R : Result → Shared → Prop} {name qual : Str} {params : Arguments} {body : Expr} {scope : Scope}
    {cl : List (Str × Addr)} {pm ctv : Value} {c' f : Addr} {args : Args} {binds : List (Str × Value)} {muts : List (Addr × Obj)}
    (B : Base K H s.heap) (mu : ∀ q ∈ muts, s.heap.get? q.1 = some q.2 ∧ H.get? q.1 = none)
    (ho : s.heap.get? f = some (kla_obj name qual params body scope cl pm c' ctv)) (hcd : s.heap.CodeRec (.ref c') qual) (hroom : A.depth < recursionLimit)
    (hbind : bindArgs (kla_fn name qual params body scope cl pm (.ref c') ctv) args = pure binds) (hloc : ∀ y ∈ binds, scope.names.lookup y.1 = some .local)
    (hcell : ∀ x ∈ scope.names, x.2 ≠ .cell) (hco : scope.isCoroutine = false) (hgen : scope.isGenerator = false) (hk : scope.kind = .function)
    (h : ∀ g L h₁ p loose mean mg mb, K.In g → Top p loose mean mg mb g → Fr g L h₁ (fun y => binds.reverse.lookup y) → News g L h₁ muts → (∀ q ∈ muts, q.1 < L) →
      (∀ b o, s.heap.get? b = some o → b ∉ muts.map (·.1) → g.get? b = some o) → L = s.heap.objs.size → (∀ b o, H.get? b = some o → g.get? b = some o) →
      wpAny (model prog w) (A.deeper (envX qual scope L f (.ref c') cl)) (eval body (envX qual scope L f (.ref c') cl))
        (fun v s' => R (.ok (.ret v)) s') (fun _ _ => False)
        { s with heap := h₁, toks := s.toks + binds.length }) : codeAny (model prog w) A (.call (.ref f) args) R s := by
  obtain ⟨p, loose, mean, mg, mb, T⟩ := B.T
  have lift : ∀ b o, H.get? b = some o → (hideAll s.heap (muts.map (·.1))).get? b = some o := fun b o e =>
    hideAll_get _ (B.up b o e) fun hm => by
      obtain ⟨q, hq, rfl⟩ := List.mem_map.mp hm
      rw [(mu q hq).2] at e; cases e
  refine kla_callFunE hroom ho rfl hco hgen rfl hcd ?_
  rw [hbind]
  refine wpAny_pure (wpAny_newFunctionEnv hcell hloc (fun h₁ hns hsb => ⟨((T.nolimit).keeps B.up).fresh _ hsb, ?_⟩) hk)
  show codeAny _ _ (.expr body (envX qual scope s.heap.objs.size f (.ref c') cl)) _ _
  have hk₁ : ∀ b o, s.heap.get? b = some o → h₁.get? b = some o := fun b o e => hsb.extBut b o (Nat.ne_of_lt (Heap.lt_size e)) (Heap.get?_push_of_some _ e)
  refine kla_codeExpr (wpAny_mono (h (hideAll s.heap (muts.map (·.1))) s.heap.objs.size h₁ p loose mean mg mb (B.X.keeps lift) (T.keeps lift) ⟨hns, fun b o e => hk₁ b o (of_hideAll _ e), Nat.le_of_eq (hideAll_size _ _)⟩
    (fun q hq => ⟨hk₁ _ _ (mu q hq).1, Nat.ne_of_lt (Heap.lt_size (mu q hq).1), hideAll_none _ (List.mem_map_of_mem hq)⟩) (fun q hq => Heap.lt_size (mu q hq).1)
    (fun b o e hn => hideAll_get _ e hn) rfl lift) (fun _ _ y => y) fun _ _ y => y.elim)

theorem after {g h h' : Heap} {L : Addr} {m : Str → Option Value} {news news' : List (Addr × Obj)} {S : List Addr} (F : Fr g L h m) (N : News g L h news) (st : Stays S h h')
    (hS : ∀ a ∈ S, a ≠ L ∧ g.get? a = none) (hn : ∀ q ∈ news', (q ∈ news ∧ q.1 ∉ S) ∨ (h'.get? q.1 = some q.2 ∧ q.1 ≠ L ∧ g.get? q.1 = none)) : Fr g L h' m ∧ News g L h' news' := by
  refine ⟨⟨?_, fun b o e => st b o (F.keep b o e) (fun hm => (nomatch ((hS b hm).2.symm.trans e))), F.above⟩, fun q hq => ?_⟩
  · obtain ⟨o, es, ep, ho, r⟩ := F.ns
    exact ⟨o, es, ep, st L o ho fun hm => (hS L hm).1 rfl, r⟩
  · rcases hn q hq with ⟨hm, hs⟩ | hx
    · exact ⟨st _ _ (N q hm).1 hs, (N q hm).2⟩
    · exact hx

theorem fin {s s' : Shared} {R : Result → Shared → Prop} {Post : Value → Heap → Prop} {v : Value} {g : Heap} {L : Addr} {m : Str → Option Value} {S : List Addr}
    (hR : ∀ v h' tk', Post v h' → R (.ok (.ret v)) { s with heap := h', toks := tk' }) (lift : ∀ b o, s.heap.get? b = some o → b ∉ S → g.get? b = some o)
    (F : Fr g L s'.heap m) (hs : s' = { s with heap := s'.heap, toks := s'.toks }) (hp : Stays S s.heap s'.heap → Post v s'.heap) : R (.ok (.ret v)) s' := by
  rw [hs]
  exact hR v s'.heap s'.toks (hp fun b o e hb => F.keep b o (lift b o e hb))

theorem pop0 {prog : Program} {w : World} {A : Around} {E : Value → Shared → Prop} {s : Shared} {g : Heap} {L D : Addr} {m : Str → Option Value} {news news' : List (Addr × Obj)} {n : Nat} {u : Tok} {x : Value} {r : List Value} {Q : Value → Shared → Prop}
    (F : Fr g L s.heap m) (N : News g L s.heap news) (U : Upd D (listOf (x :: r).toArray n) (listOf r.toArray (n + 1)) news news') (hz : (x :: r).length ≤ 100000)
    (h : ∀ h', Fr g L h' m → News g L h' news' → Q x { s with heap := h' }) : wpAny (model prog w) A (call (.builtin "list.pop") [.ref D, .int 0 u]) Q E s := by
  refine kl_popAt (p := []) (q := r) (k := 0) F N (by decide) ?_ rfl U (Nat.le_trans hz (by decide)) h
  unfold seqIndex?
  simp
noncomputable def RdObj (K : Frag) (fa : Addr) (h : Heap) (rd cl : Addr) : Prop :=
  ∃ nm qual params s1 s2 tg lp lb ls lpos ap s4 scope dV kV doc pm an cd ct oc od osl q pm' cr ctv,
    K.lookup fa = some ⟨oc, od, .func (fnOf nm qual params [s1, s2, .Assign tg (.Lambda lp lb ls lpos) ap, s4] scope dV kV doc pm an cd ct), osl⟩ ∧
    h.get? rd = some (kla_obj (Str.ofString "<lambda>") q lp lb ls [(Str.ofString "signs", cl)] pm' cr ctv) ∧ h.CodeRec (.ref cr) q

theorem rdObj_of {K : Frag} {fa : Addr} {h : Heap} {rd cl : Addr} {nm qual : Str} {params lp : Arguments} {s1 s2 s4 : Stmt} {tg : List Expr} {lb : Expr} {ls scope : Scope} {lpos ap : Pos} {dV kV doc pm cd ct oc pm' ctv : Value} {an od : Option Addr} {osl : Array (Option Value)} {q : Str} {cr : Addr}
    (hk : K.lookup fa = some ⟨oc, od, .func (fnOf nm qual params [s1, s2, .Assign tg (.Lambda lp lb ls lpos) ap, s4] scope dV kV doc pm an cd ct), osl⟩)
    (hg : h.get? rd = some (kla_obj (Str.ofString "<lambda>") q lp lb ls [(Str.ofString "signs", cl)] pm' cr ctv)) (hc : h.CodeRec (.ref cr) q) : RdObj K fa h rd cl :=
  ⟨_, _, _, _, _, _, _, _, _, _, _, _, _, _, _, _, _, _, _, _, _, _, _, _, _, _, _, hk, hg, hc⟩
structure StrmFix (K : Frag) (fa : Addr) (w : World) (h : Heap) (cl sg st sd rd : Addr) : Prop where
  cell : ∃ oc, h.get? cl = some oc ∧ oc.data = .cell (some (.ref sg))
  fn : ∃ fd sl, h.get? st = some ⟨.type "function", some sd, .func fd, sl⟩
  dict : ∃ k n, h.get? sd = some (dictOf [⟨PyData.keyHash w.params (Str.ofString "read"), .str (Str.ofString "read") k, .ref rd⟩] n)
  rdo : RdObj K fa h rd cl

theorem RdObj.keeps {K : Frag} {fa : Addr} {h h' : Heap} {rd cl : Addr} (x : RdObj K fa h rd cl) (k : ∀ o, (h.get? rd = some o → h'.get? rd = some o)) (kc : ∀ c o, h.get? c = some o → (∃ vs, o.data = .fields vs) → h'.get? c = some o) : RdObj K fa h' rd cl := by
  obtain ⟨nm, qual, params, s1, s2, tg, lp, lb, ls, lpos, ap, s4, scope, dV, kV, doc, pm, an, cd, ct, oc, od, osl, q, pm', cr, ctv, a, b, c, o, vs, t, e1, e2, e3, e4⟩ := x
  cases e1
  exact ⟨nm, qual, params, s1, s2, tg, lp, lb, ls, lpos, ap, s4, scope, dV, kV, doc, pm, an, cd, ct, oc, od, osl, q, pm', _, ctv, a, k _ b, _, o, vs, t, rfl, kc _ _ e2 ⟨_, e3⟩, e3, e4⟩
theorem StrmFix.keeps {K : Frag} {fa : Addr} {w : World} {h h' : Heap} {cl sg st sd rd : Addr} (x : StrmFix K fa w h cl sg st sd rd) (k : ∀ b ∈ [cl, st, sd, rd], ∀ o, h.get? b = some o → h'.get? b = some o)
    (kc : ∀ c o, h.get? c = some o → (∃ vs, o.data = .fields vs) → h'.get? c = some o) : StrmFix K fa w h' cl sg st sd rd where
  cell := let ⟨oc, a, b⟩ := x.cell; ⟨oc, k _ (.head _) _ a, b⟩
  fn := let ⟨fd, sl, a⟩ := x.fn; ⟨fd, sl, k _ (.tail _ (.head _)) _ a⟩
  dict := let ⟨kk, n, a⟩ := x.dict; ⟨kk, n, k _ (.tail _ (.tail _ (.head _))) _ a⟩
  rdo := x.rdo.keeps (fun o e => k _ (.tail _ (.tail _ (.tail _ (.head _)))) o e) kc

noncomputable def NextPost (sg : Addr) (its : List Value) (h : Heap) (v : Value) (h' : Heap) : Prop :=
  Stays [sg] h h' ∧ (its = [] → (∃ t, v = .str (Str.ofString "") t) ∧ ∃ n, h'.get? sg = some (listOf its.toArray n)) ∧ (∀ x r, its = x :: r → v = x ∧ ∃ n, h'.get? sg = some (listOf r.toArray n))

theorem lift_kc {s : Shared} {g : Heap} {muts : List (Addr × Obj)} (lift : ∀ b o, s.heap.get? b = some o → b ∉ muts.map (·.1) → g.get? b = some o) (mu : ∀ q ∈ muts, s.heap.get? q.1 = some q.2)
    (nf : ∀ q ∈ muts, ∀ vs, q.2.data ≠ .fields vs) : ∀ c o, s.heap.get? c = some o → (∃ vs, o.data = .fields vs) → g.get? c = some o := fun c o e ⟨vs, hv⟩ =>
  lift c o e fun hm => by
    obtain ⟨q, hq, rfl⟩ := List.mem_map.mp hm
    rw [mu q hq] at e
    cases e
    exact nf q hq vs hv

noncomputable def lexDict (w : World) (k1 k2 k3 k4 t t3 : Tok) (ln : Int) (st pb : Addr) : List DictEntry :=
  [⟨PyData.keyHash w.params (Str.ofString "lineno"), .str (Str.ofString "lineno") k1, .int ln t⟩, ⟨PyData.keyHash w.params (Str.ofString "instream"), .str (Str.ofString "instream") k2, .ref st⟩,
   ⟨PyData.keyHash w.params (Str.ofString "whitespace"), .str (Str.ofString "whitespace") k3, .str (Str.ofString "\n\t\u000d ") t3⟩, ⟨PyData.keyHash w.params (Str.ofString "pushback"), .str (Str.ofString "pushback") k4, .ref pb⟩]
noncomputable def LexDict (w : World) (h : Heap) (dx : Addr) (ln : Int) (st pb : Addr) : Prop := ∃ k1 k2 k3 k4 t t3, h.get? dx = some (dictOf (lexDict w k1 k2 k3 k4 t t3 ln st pb) 4)

theorem frCongr {g h : Heap} {L : Addr} {m m' : Str → Option Value} (F : Fr g L h m) (e : ∀ y, m y = m' y) : Fr g L h m' := by
  have : m = m' := funext e
  rw [← this]; exact F
noncomputable def tkM (lx it : Addr) (tok : Str) (tt : Tok) (och : Option Value) : Str → Option Value := fun y =>
  if y = Str.ofString "ch" then och else if y = Str.ofString "token" then some (.str tok tt) else if y = Str.ofString "fiter" then some (.ref it) else if y = Str.ofString "self" then some (.ref lx) else none
theorem tkInit {g h : Heap} {L lx it : Addr} {tok : Str} {tt : Tok} {m0 : Str → Option Value}
    (F : Fr g L h (fun y => if y = Str.ofString "fiter" then some (.ref it) else if y = Str.ofString "token" then some (.str tok tt) else m0 y)) (e : ∀ y, m0 y = [(Str.ofString "self", Value.ref lx)].lookup y) : Fr g L h (tkM lx it tok tt none) := by
  refine frCongr F fun y => ?_
  unfold tkM
  by_cases h1 : y = Str.ofString "ch"
  · subst h1; rw [if_neg (by decide), if_neg (by decide), if_pos rfl, e]; rfl
  rw [if_neg h1]
  by_cases h3 : y = Str.ofString "fiter"
  · subst h3; rw [if_pos rfl, if_neg (by decide), if_pos rfl]
  rw [if_neg h3, if_neg h3]
  by_cases h2 : y = Str.ofString "token"
  · rw [if_pos h2, if_pos h2]
  rw [if_neg h2, if_neg h2, e, List.lookup_cons]
  by_cases h4 : y = Str.ofString "self"
  · subst h4; rw [if_pos rfl]; rfl
  · rw [if_neg h4, show (y == Str.ofString "self") = false from beq_eq_false_iff_ne.mpr h4]; rfl
theorem tkCh {g h : Heap} {L lx it : Addr} {tok : Str} {tt : Tok} {och : Option Value} {v : Value} (F : Fr g L h (fun y => if y = Str.ofString "ch" then some v else tkM lx it tok tt och y)) : Fr g L h (tkM lx it tok tt (some v)) := by
  refine frCongr F fun y => ?_
  unfold tkM
  by_cases h1 : y = Str.ofString "ch"
  · rw [if_pos h1, if_pos h1]
  · rw [if_neg h1, if_neg h1, if_neg h1]
theorem tkTok {g h : Heap} {L lx it : Addr} {tok tok' : Str} {tt tt' : Tok} {och : Option Value} (F : Fr g L h (fun y => if y = Str.ofString "token" then some (.str tok' tt') else tkM lx it tok tt och y)) : Fr g L h (tkM lx it tok' tt' och) := by
  refine frCongr F fun y => ?_
  unfold tkM
  by_cases h2 : y = Str.ofString "token"
  · subst h2; rw [if_pos rfl, if_neg (by decide), if_pos rfl]
  · rw [if_neg h2, if_neg h2, if_neg h2]
theorem tkTokCh {g h : Heap} {L lx it : Addr} {tok tok' : Str} {tt tt' : Tok} {och : Option Value} {v : Value} (F : Fr g L h (fun y => if y = Str.ofString "token" then some (.str tok' tt') else if y = Str.ofString "ch" then some v else tkM lx it tok tt och y)) : Fr g L h (tkM lx it tok' tt' (some v)) := by
  refine frCongr F fun y => ?_
  unfold tkM
  by_cases h2 : y = Str.ofString "token"
  · subst h2; rw [if_pos rfl, if_neg (by decide), if_pos rfl]
  rw [if_neg h2]
  by_cases h1 : y = Str.ofString "ch"
  · rw [if_pos h1, if_pos h1]
  · rw [if_neg h1, if_neg h1, if_neg h1, if_neg h2, if_neg h2]
theorem fnIn_get {K : Frag} {h : Heap} {f : Addr} (X : K.In h) (e : fnIn K f = true) : ∃ fo fd, h.get? f = some fo ∧ fo.data = .func fd := by
  unfold fnIn at e
  split at e
  · rename_i q; exact ⟨_, _, X _ _ q, rfl⟩
  · cases e
theorem fnAt_keep {q L : Addr} {g h : Heap} {m : Str → Option Value} (x : FnAt q g) (F : Fr g L h m) : FnAt q h := let ⟨a, b, c, d, e⟩ := x; ⟨a, b, c, d, F.keep _ _ e⟩

inductive Less (I : Nat → Shared → Prop) (n : Nat) (s : Shared) : Prop where
  | mk (m : Nat) (hm : m < n) (hI : I m s) : Less I n s
theorem forLoopL {prog : Program} {w : World} {A : Around} {s : Shared} {R : Result → Shared → Prop} {target it body orelse env} (I : Nat → Shared → Prop)
    (turn : ∀ n s, I n s → wpAny (model prog w) A (pyNext it) (fun r s₁ => match r with
      | none => wpAny (model prog w) A (execs orelse env) (fun f s₃ => R (.ok f) s₃) (notedBy (model prog w) A env fun e s' => R (.error e) s') s₁
      | some v => wpAny (model prog w) A (assign target env v) (fun _ s₂ => wpAny (model prog w) A (execs body env) (fun f s₃ => match f with
          | .next | .cont => Less I n s₃
          | .brk => R (.ok .next) s₃
          | .ret v => R (.ok (.ret v)) s₃) (notedBy (model prog w) A env fun e s' => R (.error e) s') s₂) (notedBy (model prog w) A env fun e s' => R (.error e) s') s₁) (notedBy (model prog w) A env fun e s' => R (.error e) s') s)
    (n : Nat) (h : I n s) (ht : ∀ v, letOwnedTupleGo target it v = pure () := by intro _; rfl) : codeAny (model prog w) A (.forLoop target it body orelse env) R s := by
  refine codeAny_forLoop I (fun k s' hI => wpAny_mono (turn k s' hI) (fun r s₁ h => ?_) fun _ _ e => e) n h ht
  cases r with
  | none => exact h
  | some v =>
    refine wpAny_mono h (fun _ s₂ h => wpAny_mono h (fun f s₃ h => ?_) fun _ _ e => e) fun _ _ e => e
    cases f with
    | next => cases h with | mk m hm hI => exact ⟨m, hm, hI⟩
    | cont => cases h with | mk m hm hI => exact ⟨m, hm, hI⟩
    | brk => exact h
    | ret v => exact h
theorem whileLoopL {prog : Program} {w : World} {A : Around} {s : Shared} {R : Result → Shared → Prop} {test body orelse env} (I : Nat → Shared → Prop)
    (turn : ∀ n s, I n s →
      wpAny (model prog w) A (isTrue test env (eval test env)) (fun b s₂ =>
        if b then wpAny (model prog w) A (execs body env) (fun f s₃ => match f with
            | .next | .cont => Less I n s₃
            | .brk => R (.ok .next) s₃
            | .ret v => R (.ok (.ret v)) s₃) (notedBy (model prog w) A env fun e s' => R (.error e) s') s₂
        else wpAny (model prog w) A (execs orelse env) (fun f s₃ => R (.ok f) s₃) (notedBy (model prog w) A env fun e s' => R (.error e) s') s₂)
        (notedBy (model prog w) A env fun e s' => R (.error e) s') s)
    (n : Nat) (h : I n s) : codeAny (model prog w) A (.whileLoop test body orelse env) R s := by
  refine codeAny_whileLoop I (fun k s' hI => wpAny_mono (turn k s' hI) (fun b s₂ h => ?_) fun _ _ e => e) n h
  cases b with
  | false => exact h
  | true =>
    refine wpAny_mono h (fun f s₃ h => ?_) fun _ _ e => e
    cases f with
    | next => cases h with | mk m hm hI => exact ⟨m, hm, hI⟩
    | cont => cases h with | mk m hm hI => exact ⟨m, hm, hI⟩
    | brk => exact h
    | ret v => exact h
theorem forLoopA {prog : Program} {w : World} {A : Around} {s : Shared} {R : Result → Shared → Prop} {target it body orelse env} (I : Nat → Shared → Prop)
    (turn : ∀ n s, I n s → ∀ (Nx : Shared → Prop) (R' : Result → Shared → Prop), (∀ s', Less I n s' → Nx s') → (∀ r s', R r s' → R' r s') → wpAny (model prog w) A (pyNext it) (fun r s₁ => match r with
      | none => wpAny (model prog w) A (execs orelse env) (fun f s₃ => R' (.ok f) s₃) (notedBy (model prog w) A env fun e s' => R' (.error e) s') s₁
      | some v => wpAny (model prog w) A (assign target env v) (fun _ s₂ => wpAny (model prog w) A (execs body env) (fun f s₃ => match f with
          | .next | .cont => Nx s₃
          | .brk => R' (.ok .next) s₃
          | .ret v => R' (.ok (.ret v)) s₃) (notedBy (model prog w) A env fun e s' => R' (.error e) s') s₂) (notedBy (model prog w) A env fun e s' => R' (.error e) s') s₁) (notedBy (model prog w) A env fun e s' => R' (.error e) s') s)
    (n : Nat) (h : I n s) (ht : ∀ v, letOwnedTupleGo target it v = pure () := by intro _; rfl) : codeAny (model prog w) A (.forLoop target it body orelse env) R s :=
  forLoopL I (fun n s hI => turn n s hI (Less I n) R (fun _ h => h) (fun _ _ h => h)) n h ht
theorem whileLoopA {prog : Program} {w : World} {A : Around} {s : Shared} {R : Result → Shared → Prop} {test body orelse env} (I : Nat → Shared → Prop)
    (turn : ∀ n s, I n s → ∀ (Nx : Shared → Prop) (R' : Result → Shared → Prop), (∀ s', Less I n s' → Nx s') → (∀ r s', R r s' → R' r s') →
      wpAny (model prog w) A (isTrue test env (eval test env)) (fun b s₂ =>
        if b then wpAny (model prog w) A (execs body env) (fun f s₃ => match f with
            | .next | .cont => Nx s₃
            | .brk => R' (.ok .next) s₃
            | .ret v => R' (.ok (.ret v)) s₃) (notedBy (model prog w) A env fun e s' => R' (.error e) s') s₂
        else wpAny (model prog w) A (execs orelse env) (fun f s₃ => R' (.ok f) s₃) (notedBy (model prog w) A env fun e s' => R' (.error e) s') s₂)
        (notedBy (model prog w) A env fun e s' => R' (.error e) s') s)
    (n : Nat) (h : I n s) : codeAny (model prog w) A (.whileLoop test body orelse env) R s :=
  whileLoopL I (fun n s hI => turn n s hI (Less I n) R (fun _ h => h) (fun _ _ h => h)) n h
theorem all_nil {α : Type} {P : α → Prop} : ∀ q ∈ ([] : List α), P q := fun _ h => nomatch h
theorem all_cons {α : Type} {P : α → Prop} {a : α} {l : List α} (h : P a) (hl : ∀ q ∈ l, P q) : ∀ q ∈ a :: l, P q := fun q hq => by
  rcases List.mem_cons.mp hq with rfl | hq
  · exact h
  · exact hl q hq
theorem datAll_carried {news : List (Addr × Obj)} : ∀ {ws : List Str} {ys : List Value}, CarriedAll ys (ws.map PyData.str) → DatAll news ys (ws.map Dat.str)
  | [], _, h => by cases h; exact .nil
  | _ :: _, _, h => by
    cases h with
    | cons a r =>
      cases a
      exact .cons (.str _ _) (datAll_carried r)
theorem datAll_nil {news : List (Addr × Obj)} {ds : List Dat} (D : DatAll news [] ds) : ds = [] := by cases D; rfl
theorem datAll_cons {news : List (Addr × Obj)} {v : Value} {vs : List Value} {ds : List Dat} (D : DatAll news (v :: vs) ds) : ∃ d es, ds = d :: es ∧ DatIn news v d ∧ DatAll news vs es := by
  cases D with
  | cons h r => exact ⟨_, _, rfl, h, r⟩
end Mine
end
section
open PySem PySem.W PyProof.Rows PySem.Calls
set_option maxRecDepth 100000
namespace Mine
theorem kpick_tail {pre suf : List Value} {k : Int} (h : k = -(suf.length : Int)) (h0 : 0 < suf.length) : kms_pick (pre ++ suf).toArray.toList (some k) none = suf := by
  subst h
  unfold kms_pick kms_lo kms_hi
  simp only [List.length_append]
  rw [if_pos (by omega)]
  rw [show pre.length + suf.length - (- -(suf.length : Int)).toNat = pre.length from by omega]
  rw [List.drop_left, List.take_of_length_le (by omega)]
theorem kpick_init {pre suf : List Value} {k : Int} (h : k = -(suf.length : Int)) (h0 : 0 < suf.length) : kms_pick (pre ++ suf).toArray.toList none (some k) = pre := by
  subst h
  unfold kms_pick kms_lo kms_hi
  simp only [List.length_append]
  rw [if_pos (by omega)]
  rw [show pre.length + suf.length - (- -(suf.length : Int)).toNat - 0 = pre.length from by omega]
  rw [List.drop_zero, List.take_left]
theorem kpt2 {pre : List Value} {x y : Value} : kms_pick (pre ++ [x, y]).toArray.toList (some (-2)) none = [x, y] := kpick_tail rfl (Nat.succ_pos _)
theorem kpi2 {pre : List Value} {x y : Value} : kms_pick (pre ++ [x, y]).toArray.toList none (some (-2)) = pre := kpick_init rfl (Nat.succ_pos _)
theorem kpt3 {pre : List Value} {x y z : Value} : kms_pick (pre ++ [x, y, z]).toArray.toList (some (-3)) none = [x, y, z] := kpick_tail rfl (Nat.succ_pos _)
theorem kpi3 {pre : List Value} {x y z : Value} : kms_pick (pre ++ [x, y, z]).toArray.toList none (some (-3)) = pre := kpick_init rfl (Nat.succ_pos _)

theorem kneg {prog : Program} {w : World} {A : Around} {E : Value → Shared → Prop} {s : Shared} {value slice : PySem.Expr} {l : Addr} {pre suf : List Value} {k : Int} {u : Tok} (j : Nat) {v : Value} {Q : Value → Shared → Prop} (hl : s.heap.IsList l (pre ++ suf).toArray) (hk : k = -((j : Int) + 1)) (hj : j < suf.length) (hx : suf.reverse[j]? = some v) (hz : j < 100000) (h : Q v s)
    (hs : subscripted slice false (.ref l) (.int k u) = operate [.ref l, .int k u] (getItem (.ref l) (.int k u)) := by with_unfolding_all rfl) :
    wpAny (model prog w) A (subscriptTail value slice (.ref l) (.int k u)) Q E s := by
  refine kde_neg (j := pre.length + (suf.length - 1 - j)) hl (by omega) (by omega) ?_ ?_ h hs
  · unfold seqIndex?
    rw [List.length_append]
    subst hk
    simp only [bne_iff_ne]
    split <;> split <;> first | omega | (congr 1; omega) | (exfalso; simp_all; omega) | skip
  · rw [List.getElem?_append_right (by omega), show pre.length + (suf.length - 1 - j) - pre.length = suf.length - 1 - j from by omega]
    rw [List.getElem?_reverse hj] at hx
    exact hx
theorem klen {prog : Program} {w : World} {A : Around} {E : Value → Shared → Prop} {s : Shared} {l : Addr} {vals : List Value} {Q : Value → Shared → Prop} (hl : s.heap.IsList l vals.toArray) (hz : vals.length ≤ 200000) (h : Q (.int vals.length (s.toks + 1)) { s with toks := s.toks + 1 + 1 }) :
    wpAny (model prog w) A (call (.builtin "len") [.ref l]) Q E s :=
  len_list hl (by rw [List.size_toArray]; omega) (by rw [List.size_toArray]; exact h)
theorem notInInt3 {prog : Program} {w : World} {A : Around} {E : Value → Shared → Prop} {s : Shared} {l : Addr} {a b c : Str} {ta tb tc tx : Tok} {x : Int} {Q : Value → Shared → Prop} (hl : s.heap.IsList l #[.str a ta, .str b tb, .str c tc]) (h : Q (.bool true) s) :
    wpAny (model prog w) A (compareOp .NotIn (.int x tx) (.ref l)) Q E s := by
  refine PySem.SeqAt.notIn_listAt (fun _ => false) hl (fun y hy => ?_) ?_
  · simp only [List.mem_toArray, List.mem_cons, List.not_mem_nil, or_false] at hy
    rcases hy with rfl | rfl | rfl <;> exact PySem.SeqAt.EqAt.str_int _ _ _ _
  · simpa using h
theorem neList {h : Heap} {a b : Addr} {v1 v2 : List Value} {n1 n2 : Nat} (h1 : h.get? a = some (listOf v1.toArray n1)) (h2 : h.get? b = some (listOf v2.toArray n2)) (hl : v1.length ≠ v2.length) : a ≠ b := fun e => by
  rw [e, h2] at h1
  injection h1 with h1
  injection h1 with _ _ h1
  injection h1 with h1
  exact hl (by have := congrArg Array.size h1; simpa using this.symm)
theorem addL {prog : Program} {w : World} {A : Around} {E : Value → Shared → Prop} {s : Shared} {h₀ : Heap} {L a b : Addr} {m : Str → Option Value} {news : List (Addr × Obj)} {v1 v2 : List Value} {Q : Value → Shared → Prop}
    (F : Fr h₀ L s.heap m) (N : News h₀ L s.heap news) (ha : s.heap.IsList a v1.toArray) (hb : s.heap.IsList b v2.toArray)
    (h : ∀ D h', Fr h₀ L h' m → News h₀ L h' ((D, listOf (v1 ++ v2).toArray 0) :: news) → (∀ p ∈ news, p.1 < D) → Q (.ref D) { s with heap := h' })
    (hz : v1.length + v2.length ≤ 1000000) : wpAny (model prog w) A (binaryOp .Add (.ref a) (.ref b)) Q E s :=
  kmk_add_lit F N ha hb rfl h (Nat.le_trans hz (by decide))
theorem news2 {g h : Heap} {L a b : Addr} {oa ob : Obj} (h1 : h.get? a = some oa ∧ a ≠ L ∧ g.get? a = none) (h2 : h.get? b = some ob ∧ b ≠ L ∧ g.get? b = none) : News g L h [(a, oa), (b, ob)] := fun q hq => by
  revert q
  refine all_cons ?_ (all_cons ?_ all_nil)
  · exact h1
  · exact h2
noncomputable def StackPost (vs : List Value) (h : Heap) (v : Value) (h' : Heap) : Prop := Stays [] h h' ∧ ∃ a n, v = .ref a ∧ h.get? a = none ∧ h'.get? a = some (listOf vs.toArray n)
theorem stackFin {s s' : Shared} {R : Result → Shared → Prop} {g : Heap} {L a sk : Addr} {m : Str → Option Value} {vs : List Value} {o o' : Obj} {n : Nat} (hsk : s.heap.get? sk = some o')
   (hR : ∀ v h' tk', StackPost vs s.heap v h' → R (.ok (.ret v)) { s with heap := h', toks := tk' })
   (lift : ∀ b o, s.heap.get? b = some o → b ∉ [sk] → g.get? b = some o)
   (F : Fr g L s'.heap m) (hs : s' = { s with heap := s'.heap, toks := s'.toks }) (e : s'.heap.get? sk = some o') (hne : a ≠ sk) (ea : s'.heap.get? a = some o ∧ a ≠ L ∧ g.get? a = none) (eo : o = listOf vs.toArray n) : R (.ok (.ret (.ref a))) s' := by
  subst eo
  refine fin (S := [sk]) hR lift F hs (fun hst => ⟨hst.drop hsk e ?_, a, _, rfl, ?_, ea.1⟩)
  · intro b hb hne
    exact absurd (List.mem_singleton.mp hb) hne
  · cases q : s.heap.get? a with
    | none => rfl
    | some o =>
      have := lift a o q (by rw [List.mem_singleton]; exact hne)
      rw [ea.2.2] at this
      cases this
theorem datAll_append {news : List (Addr × Obj)} : ∀ {d1 d2 : List Dat} {vs : List Value}, DatAll news vs (d1 ++ d2) → ∃ v1 v2, vs = v1 ++ v2 ∧ DatAll news v1 d1 ∧ DatAll news v2 d2
  | [], _, _, D => ⟨[], _, rfl, .nil, D⟩
  | d :: d1, d2, vs, D => by
    rw [List.cons_append] at D
    cases D with
    | cons h r =>
      obtain ⟨v1, v2, rfl, a, b⟩ := datAll_append r
      exact ⟨_ :: v1, v2, rfl, .cons h a, b⟩
theorem datAll_app {news : List (Addr × Obj)} {d2 : List Dat} {v2 : List Value} (b : DatAll news v2 d2) : ∀ {d1 : List Dat} {v1 : List Value}, DatAll news v1 d1 → DatAll news (v1 ++ v2) (d1 ++ d2)
  | [], v1, a => by cases a; exact b
  | _ :: _, v1, a => by
    cases a with
    | cons h r => exact .cons h (datAll_app b r)
theorem datSuf1 {news : List (Addr × Obj)} {vs : List Value} {d : Str} (D : DatAll news vs [.str d]) : ∃ t, vs = [.str d t] := by
  cases D with
  | cons h r => cases h; cases r; exact ⟨_, rfl⟩
theorem datSufI {news : List (Addr × Obj)} {vs : List Value} {d : Int} (D : DatAll news vs [.int d]) : ∃ t, vs = [.int d t] := by
  cases D with
  | cons h r => cases h; cases r; exact ⟨_, rfl⟩
theorem datSuf2 {news : List (Addr × Obj)} {vs : List Value} {d : Str} {a : Int} (D : DatAll news vs [.str d, .int a]) : ∃ t u, vs = [.str d t, .int a u] := by
  cases D with
  | cons h r => cases h; obtain ⟨t, rfl⟩ := datSufI r; exact ⟨_, _, rfl⟩
theorem datSuf3 {news : List (Addr × Obj)} {vs : List Value} {d : Str} {a b : Int} (D : DatAll news vs [.str d, .int a, .int b]) : ∃ t u v, vs = [.str d t, .int a u, .int b v] := by
  cases D with
  | cons h r =>
    cases h
    cases r with
    | cons h r => cases h; obtain ⟨t, rfl⟩ := datSufI r; exact ⟨_, _, _, rfl⟩
noncomputable def isDeed (d : Str) : Prop := d = Str.ofString "add" ∨ d = Str.ofString "sub" ∨ d = Str.ofString "mul"
noncomputable def opf (d : Str) (a b : Int) : Int := if d = Str.ofString "add" then a + b else if d = Str.ofString "sub" then a - b else a * b
inductive Folds : List Dat → List Dat → Prop
  | small {ds : List Dat} : ds.length ≤ 2 → Folds ds ds
  | deed1 {pre : List Dat} {d : Str} : isDeed d → Folds (pre ++ [.str d]) (pre ++ [.str d])
  | deed2 {pre : List Dat} {d : Str} {a : Int} : isDeed d → Folds (pre ++ [.str d, .int a]) (pre ++ [.str d, .int a])
  | turn {pre r : List Dat} {d : Str} {a b : Int} : isDeed d → IntMulOk b a → Folds (pre ++ [.int (opf d b a)]) r → Folds (pre ++ [.str d, .int a, .int b]) r
end Mine
end
section
open PySem PySem.W PyProof.Rows PySem.Calls
set_option maxRecDepth 100000
set_option maxHeartbeats 4000000
namespace Mine
theorem fillKNext2 : (fun (_ : OpenLaw) (_ : Params → Frag) => True) PySem.Challenge.rw_ik0002_02 hd2.heap_39 := by
  k_fill
  trivial

theorem rows1 : True := by
  k_with_none
  k_with "call builtin:list.pop" => ((k_here; k_dflt ((with_reducible show wpAny _ _ (call (Value.builtin _) [Value.ref _, Value.int 0 _]) _ _ _); refine' pop0 ?Fz9 ?Nz9 ?Uz9 ?zz9 ?_; (case Fz9 => k_asm); (case Nz9 => k_asm); (case Uz9 => k_upd); (case zz9 => assumption)); kl_rest))
  trivial
theorem next_does {w : World} {H : Heap} {s : Shared} {sg : Addr} {its : List Value} {n : Nat} {many : Value} {cs : List Str}
   (B : Base (hd2.heap_39 w.params) H s.heap) (hsg : s.heap.get? sg = some (listOf its.toArray n)) (hf : H.get? sg = none) (hz : its.length ≤ 100000)
   (D : DatAll [] its (cs.map Dat.str)) (hok : ∀ d ∈ cs.map Dat.str, kqdOk 8 d = true) :
   Does PySem.Challenge.pw_ik0002_02 w 9 (.ref 79) [.ref sg, many] s (NextPost sg its s.heap) := by
  intro R hR
  refine' enter (muts := [(sg, listOf its.toArray n)]) B ?mu ?ho ?hcd ?hroom ?hbind ?hloc ?hcell ?hco ?hgen ?hk ?h
  case ho => k_is
  case mu => intro q hq; rcases List.mem_singleton.mp hq with rfl; exact ⟨hsg, hf⟩
  case hcd => k_is
  case hroom => decide
  case hbind => exact BindsTo.of_eq rfl
  case hloc => exact locs rfl
  case hcell => decide
  case hco => rfl
  case hgen => rfl
  case hk => rfl
  intro g L h₁ p loose mean mg mb X T F N hlt lift hL up
  have hN : DatAll [] ([] : List Value) [] := .nil
  have hok0 : ∀ d ∈ ([] : List Dat), kqdOk 8 d = true := fun _ h => nomatch h
  cases its with
  | nil =>
    have e := datAll_nil D
    rw [e] at D hok
    k_steps
    refine fin hR lift (by assumption) rfl fun st => ⟨st, fun _ => ⟨⟨_, rfl⟩, ⟨n, ?_⟩⟩, fun x r e => nomatch e⟩
    exact ((by assumption : News g L _ _) _ (.tail _ (.head _))).1
  | cons x r =>
    obtain ⟨d, es, e, Dd, De⟩ := datAll_cons D
    rw [e] at D hok
    k_steps
    · rename_i a
      exact absurd (of_decide_eq_true a) (List.cons_ne_nil _ _)
    · refine fin hR lift (by assumption) rfl fun st => ⟨st, fun e => (nomatch e), fun x r e => ?_⟩
      cases e
      exact ⟨rfl, _, ((by assumption : News g L _ _) _ (.tail _ (.head _))).1⟩
end Mine
end
section
open PySem PySem.W PyProof.Rows PySem.Calls
set_option maxRecDepth 100000
set_option maxHeartbeats 400000
namespace Mine
theorem rows2 : True := by
  k_with_none
  trivial
theorem fillK3Rd2 : (fun (_ : OpenLaw) (_ : Params → Frag) => True) PySem.Challenge.rw_ik0002_02 hd2.heap_39 := by
  k_fill
  trivial
theorem rd_does {w : World} {H : Heap} {s : Shared} {cl sg st sd rd : Addr} {its : List Value} {n : Nat} {x : Value} {cs : List Str}
   (B : Base (hd2.heap_39 w.params) H s.heap) (hC : CodeHd H 83 81) (S : StrmFix (hd2.heap_39 w.params) 84 w s.heap cl sg st sd rd) (hsg : s.heap.get? sg = some (listOf its.toArray n)) (hf : H.get? sg = none) (hc : H.get? cl = none) (hne : cl ≠ sg)
   (hz : its.length ≤ 100000) (D : DatAll [] its (cs.map Dat.str)) (hok : ∀ d ∈ cs.map Dat.str, kqdOk 8 d = true) :
   Does PySem.Challenge.pw_ik0002_02 w 8 (.ref rd) [x] s (NextPost sg its s.heap) := by
  obtain ⟨nm, qual, params, s1, s2, tg, lp, lb, ls, lpos, ap, s4, scope, dV, kV, doc, pm, an, cd, ct, oc, od, osl, q, pm', cr, ctv, e1, e2, e3⟩ := S.rdo
  obtain ⟨oc', ec, dc⟩ := S.cell
  refine' (fun (q : _ = _) => ?_) (Eq.trans (Eq.symm e1) ?h)
  case h => k_is
  cases q
  intro R hR
  refine' enterL (muts := [(cl, oc'), (sg, listOf its.toArray n)]) B ?mu e2 e3 ?hroom ?hbind ?hloc ?hcell ?hco ?hgen ?hk ?h
  case mu =>
    intro q hq
    rcases List.mem_cons.mp hq with rfl | hq
    · exact ⟨ec, hc⟩
    · rcases List.mem_singleton.mp hq with rfl; exact ⟨hsg, hf⟩
  case hroom => decide
  case hbind => rfl
  case hloc => exact locs rfl
  case hcell => decide
  case hco => rfl
  case hgen => rfl
  case hk => rfl
  intro g L h₁ p loose mean mg mb X T F N hlt lift hL up
  have hne' := neN hne
  have hCg := hC.keeps up
  k_steps
  have m0 := N _ (.head _)
  have m1 := N _ (.tail _ (.head _))
  refine Does.call (next_does (H := g) ⟨X, ⟨_, _, _, _, _, T⟩, F.keep⟩ m1.1 m1.2.2 hz D hok) ?_
  intro v h' tk' ⟨st1, a1, a2⟩
  have F2 := (after (news' := []) F N st1 (fun a ha => by rw [List.mem_singleton.mp ha]; exact m1.2) (fun q hq => nomatch hq)).1
  refine fin hR lift F2 rfl fun stays => ⟨fun b o e hb => ?_, a1, a2⟩
  by_cases hbc : b = cl
  · subst hbc
    rw [ec] at e; cases e
    exact st1 _ _ m0.1 hb
  · exact stays b o e fun hm => by
      rcases List.mem_cons.mp hm with h | h
      · exact hbc h
      · exact hb h
end Mine
end
section
open PySem PySem.W PyProof.Rows PySem.Calls
set_option maxRecDepth 100000
set_option maxHeartbeats 1000000
namespace Mine
theorem slot_fn_ga : Slot "function" "__getattribute__" "object.__getattribute__" :=
  .of (owner := "object") (n := "__getattribute__") (by rw [typeLookup_type, builtinLookup_eq_fast]; kernel_rfl) (by decide +kernel) (by decide +kernel) (by decide +kernel)
    (by first | exact .inl (by decide +kernel) | exact .inr (by decide +kernel)) (by rw [isSubtype_type]; kernel_rfl)
theorem slot_fn_sa : Slot "function" "__setattr__" "object.__setattr__" :=
  .of (owner := "object") (n := "__setattr__") (by rw [typeLookup_type, builtinLookup_eq_fast]; kernel_rfl) (by decide +kernel) (by decide +kernel) (by decide +kernel)
    (by first | exact .inl (by decide +kernel) | exact .inr (by decide +kernel)) (by rw [isSubtype_type]; kernel_rfl)
theorem tl_gt : typeLookup (.type "function") (Str.ofString "__getattr__") = pure none := by rw [typeLookup_type, builtinLookup_eq_fast]; kernel_rfl
theorem tl_rd : typeLookup (.type "function") (Str.ofString "read") = pure none := by rw [typeLookup_type, builtinLookup_eq_fast]; kernel_rfl

section
variable {prog : Program} {w : World} {A : Around} {E : Value → Shared → Prop} {s : Shared} {st d : Addr} {fd : FuncData} {sl : Array (Option Value)} {es : List DictEntry} {n : Nat} {name : Str} {v : Value}

theorem getAttr_fn {Q : Value → Shared → Prop} {expr : Bool} (hst : s.heap.get? st = some ⟨.type "function", some d, .func fd, sl⟩) (hd : s.heap.get? d = some (dictOf es n)) (hl : getL name es = some (some v))
    (hmiss : typeLookup (.type "function") name = pure none) (hh : handedIn v = true) (h : Q v { s with toks := s.toks + 1 }) : wpAny (model prog w) A (getAttr (.ref st) name expr) Q E s := by
  obtain ⟨hp, g, dr, tk, os⟩ := s
  have hT : ∀ tk', (⟨hp, g, dr, tk', os⟩ : Shared).TypeIs (.ref st) "function" := fun _ => ⟨_, hst, rfl⟩
  have f3 := slot_fn_ga.lookup
  have f4 := slot_fn_ga.bind (.ref st)
  unfold getAttr getAttrBy
  refine wpAny_bind (wpAny_mkText (wpAny_holding ?_))
  refine wpAny_bind (wpAny_typeOf (hT _) ?_)
  rw [f3]
  refine wpAny_bind (wpAny_pure ?_)
  show wpAny _ _ (getAttrByItsOwn _ _ _ _ _ _) _ _ _
  unfold getAttrByItsOwn
  refine wpAny_bind (wpAny_pure ?_)
  refine wpAny_bind (wpAny_attempt (wpAny_holding ?_))
  unfold callGetattribute
  rw [if_neg (by cases expr <;> decide)]
  unfold boundAndCalled
  rw [f4]
  refine wpAny_bind (wpAny_pure ?_)
  have h' : wpAny (model prog w) A (call (.builtin "object.__getattribute__") [.ref st, .str name tk]) (fun a s' => wpAny (model prog w) A (handedOut a) Q E s') (fun _ _ => False) ⟨hp, g, dr, tk + 1, os⟩ := by
    refine wpAny_call_entry slot_fn_ga (hT _) F.entry_object_getattribute ?_ (F.args_object_getattribute_2 _ _)
    unfold Builtin.«object.__getattribute__»
    refine wpAny_bind (wpAny_pure ?_)
    refine wpAny_bind (wpAny_pure ?_)
    refine wpAny_bind (wpAny_typeOf (hT _) ?_)
    repeat (any_goals (first | assumption | wp_step))
    show wpAny _ _ (nsLook name (dictOf es n)) _ _ _
    rw [nsLook_of (by rw [lookIn_dict, hl] : lookIn name (dictOf es n) = some (some v))]
    refine wpAny_pure ?_
    dsimp only
    refine wpAny_bind (wpAny_rule (wpAny_pure ?_))
    refine wpAny_pure ⟨_, rfl, ?_⟩
    rw [handedOut_of hh]
    exact wpAny_pure h
  exact wpAny_mono h' (fun a s' x => x) (fun _ _ x => x.elim)

theorem getMethod_fn {Q : Value × List Value → Shared → Prop} {pl : Sem Bool} (hst : s.heap.get? st = some ⟨.type "function", some d, .func fd, sl⟩) (hd : s.heap.get? d = some (dictOf es n)) (hl : getL name es = some (some v))
    (hmiss : typeLookup (.type "function") name = pure none) (hh : handedIn v = true) (h : Q (v, []) { s with toks := s.toks + 1 }) : wpAny (model prog w) A (getMethod (.ref st) name pl) Q E s := by
  obtain ⟨hp, g, dr, tk, os⟩ := s
  have hT : ∀ tk', (⟨hp, g, dr, tk', os⟩ : Shared).TypeIs (.ref st) "function" := fun _ => ⟨_, hst, rfl⟩
  unfold getMethod
  dsimp only
  refine wpAny_bind (wpAny_specialOf (hT _) slot_fn_ga.lookup ?_)
  dsimp only
  rw [if_neg (by decide +kernel)]
  refine wpAny_bind (wpAny_specialOf (hT _) tl_gt ?_)
  rw [if_neg (by decide)]
  refine wpAny_bind (wpAny_specialOf (hT _) hmiss ?_)
  dsimp only
  refine wpAny_bind (getAttr_fn hst hd hl hmiss hh ?_)
  exact wpAny_pure h
end
end Mine
end
section
open PySem PySem.W PyProof.Rows PySem.Calls
set_option maxRecDepth 100000
set_option maxHeartbeats 1000000
namespace Mine
section
variable {prog : Program} {w : World} {A : Around} {E : Value → Shared → Prop} {s : Shared} {st d : Addr} {fd : FuncData} {sl : Array (Option Value)} {es : List DictEntry} {n : Nat} {name : Str} {v : Value}

theorem setAttr_fn {Q : Unit → Shared → Prop} (hst : s.heap.get? st = some ⟨.type "function", none, .func fd, sl⟩) 
    (h : ∀ d h' k tk', h'.get? st = some ⟨.type "function", some d, .func fd, sl⟩ → h'.get? d = some (dictOf [⟨PyData.keyHash w.params (Str.ofString "read"), .str (Str.ofString "read") k, v⟩] 1) → s.heap.objs.size ≤ d →
      (∀ b o, b ≠ st → s.heap.get? b = some o → h'.get? b = some o) → Q () { s with heap := h', toks := tk' }) : wpAny (model prog w) A (setAttr (.ref st) (Str.ofString "read") v) Q E s := by
  obtain ⟨hp, g, dr, tk, os⟩ := s
  have hT : ∀ tk', (⟨hp, g, dr, tk', os⟩ : Shared).TypeIs (.ref st) "function" := fun _ => ⟨_, hst, rfl⟩
  have f1 := tl_rd
  have f3 := slot_fn_sa.lookup
  unfold setAttr
  refine wpAny_bind (wpAny_mkText ?_)
  refine wpAny_bind (wpAny_callSpecial?_slot (name := Str.ofString "__setattr__") (hT _) slot_fn_sa
    (wpAny_call_entry slot_fn_sa (hT _) F.entry_object_setattr ?_ (F.args_object_setattr_3 _ _ _)))
  unfold Builtin.«object.__setattr__»
  repeat (any_goals (first | assumption | wp_step))
  refine wpAny_askSetting (wpAny_pure ?_)
  repeat (any_goals (first | assumption | wp_step))
  have hne : st ≠ hp.objs.size := Nat.ne_of_lt (Heap.lt_size hst)
  generalize hF : (fun o : Obj => ({ cls := o.cls, dict := some hp.objs.size, data := o.data, slots := o.slots } : Obj)) = F0
  have hd : ((hp.push { cls := .type "dict", data := .dict #[] }).update st F0).get? hp.objs.size = some { cls := .type "dict", data := .dict #[] } := by
    rw [(Heap.SameBut.update _ st _).2 _ (Ne.symm hne)]; exact Heap.get?_push_size _ rfl
  have hs : ((hp.push { cls := .type "dict", data := .dict #[] }).update st F0).get? st = some ⟨.type "function", some hp.objs.size, .func fd, sl⟩ := by
    refine (Heap.get?_update_self _ (Heap.get?_push_of_some _ hst) (by subst hF; rfl)).trans ?_
    subst hF; rfl
  refine wpAny_loadPart hd ?_
  dsimp only
  rw [if_neg (by decide)]
  refine wpAny_updatePart hd ?_
  have hd2 := Heap.get?_update_self (Obj.putName (Str.ofString "read") (PyData.keyHash w.params (Str.ofString "read")) (Value.str (Str.ofString "read") (tk + 1)) v) hd (by rw [putName_dict]; rfl)
  refine wpAny_bind ?_
  unfold lookBehind
  refine wpAny_bind (wpAny_loadPart hd2 ?_)
  have hpn : Obj.putName (Str.ofString "read") (PyData.keyHash w.params (Str.ofString "read")) (Value.str (Str.ofString "read") (tk + 1)) v { cls := .type "dict", data := .dict #[] } = dictOf [⟨PyData.keyHash w.params (Str.ofString "read"), .str (Str.ofString "read") (tk + 1), v⟩] 1 :=
    putName_dict _ _ _ _ [] 0
  rw [hpn] at hd2 ⊢
  dsimp only
  refine wpAny_pure (wpAny_pure ⟨_, rfl, ?_⟩)
  refine wpAny_pure (h hp.objs.size _ _ _ ?_ hd2 (Nat.le_refl _) ?_)
  · rw [(Heap.SameBut.update _ _ _).2 _ hne]; exact hs
  · intro b o hb e
    have hb2 : b ≠ hp.objs.size := Nat.ne_of_lt (Heap.lt_size e)
    rw [(Heap.SameBut.update _ _ _).2 _ hb2, (Heap.SameBut.update _ _ _).2 _ hb]
    exact Heap.get?_push_of_some _ e
end
end Mine
end
section
open PySem PySem.W PyProof.Rows PySem.Calls
set_option maxRecDepth 100000
set_option maxHeartbeats 400000
namespace Mine
theorem fillK4Read2 : (fun (_ : OpenLaw) (_ : Params → Frag) => True) PySem.Challenge.rw_ik0002_02 hd2.heap_39 := by
  k_fill
  trivial
noncomputable def ReadPost (w : World) (sg dx st pb : Addr) (ln : Int) (its : List Value) (h : Heap) (v : Value) (h' : Heap) : Prop :=
  Stays [sg, dx] h h' ∧ (its = [] → (∃ t, v = .str (Str.ofString "") t) ∧ (∃ n, h'.get? sg = some (listOf its.toArray n)) ∧ LexDict w h' dx ln st pb) ∧
    (∀ c t r, its = .str c t :: r → v = .str c t ∧ (∃ n, h'.get? sg = some (listOf r.toArray n)) ∧ LexDict w h' dx (if c = Str.ofString "\n" then ln + 1 else ln) st pb)

theorem rows3 : True := by
  k_with_none
  k_with "FnAt" => ((k_dflt (exact fnAt_keep (by assumption) (by k_asm))))
  k_with "callWith ref" => ((k_here; kn_here; k_dflt ((refine' callWith_F ?k1z9 ?_; (case k1z9 => exact fnAt_keep (by assumption) (by k_asm)); k_whole))))
  trivial
theorem read_does {w : World} {H : Heap} {s : Shared} {cl sg st sd rd lx dx pb : Addr} {its : List Value} {n : Nat} {cs : List Str} {ln : Int}
   (B : Base (hd2.heap_39 w.params) H s.heap) (hC : CodeHd H 83 81) (S : StrmFix (hd2.heap_39 w.params) 84 w s.heap cl sg st sd rd) (hsg : s.heap.get? sg = some (listOf its.toArray n))
   (hlx : s.heap.get? lx = some (instObj 52 dx)) (hdx : LexDict w s.heap dx ln st pb)
   (fr : ∀ x ∈ [cl, sg, st, sd, rd, lx, dx], H.get? x = none) (nd : [cl, sg, st, sd, rd, lx, dx].Nodup)
   (hz : its.length ≤ 100000) (D : DatAll [] its (cs.map Dat.str)) (hok : ∀ d ∈ cs.map Dat.str, kqdOk 8 d = true) :
   Does PySem.Challenge.pw_ik0002_02 w 7 (.ref 35) [.ref lx] s (ReadPost w sg dx st pb ln its s.heap) := by
  obtain ⟨k1, k2, k3, k4, t, t3, hdx⟩ := hdx
  simp only [List.nodup_cons, List.mem_cons, List.not_mem_nil, or_false, not_or, List.nodup_nil, and_true, not_false_eq_true] at nd
  obtain ⟨⟨a1, a2, a3, a4, a5, a6⟩, ⟨b1, b2, b3, b4, b5⟩, ⟨c1, c2, c3, c4⟩, ⟨d1, d2, d3⟩, ⟨e1, e2⟩, f1⟩ := nd
  have b4' := neN b4
  have b5' := neN b5
  have f1' := neN f1
  have mu : ∀ q ∈ [(lx, instObj 52 dx), (dx, dictOf (lexDict w k1 k2 k3 k4 t t3 ln st pb) 4), (sg, listOf its.toArray n)], s.heap.get? q.1 = some q.2 ∧ H.get? q.1 = none := by
    refine all_cons ?_ (all_cons ?_ (all_cons ?_ all_nil))
    · exact ⟨hlx, fr _ (by simp)⟩
    · exact ⟨hdx, fr _ (by simp)⟩
    · exact ⟨hsg, fr _ (by simp)⟩
  intro R hR
  refine' enter (muts := [(lx, instObj 52 dx), (dx, dictOf (lexDict w k1 k2 k3 k4 t t3 ln st pb) 4), (sg, listOf its.toArray n)]) B mu ?ho ?hcd ?hroom ?hbind ?hloc ?hcell ?hco ?hgen ?hk ?h
  case ho => k_is
  case hcd => k_is
  case hroom => decide
  case hbind => exact BindsTo.of_eq rfl
  case hloc => exact locs rfl
  case hcell => decide
  case hco => rfl
  case hgen => rfl
  case hk => rfl
  intro g L h₁ p loose mean mg mb X T F N hlt lift hL up
  have hCg := hC.keeps up
  have Sg : StrmFix (hd2.heap_39 w.params) 84 w g cl sg st sd rd := S.keeps (fun b hb o e => lift b o e (by
    simp only [List.mem_cons, List.not_mem_nil, or_false] at hb
    simp only [List.map_cons, List.map_nil, List.mem_cons, List.not_mem_nil, or_false, not_or]
    rcases hb with rfl | rfl | rfl | rfl
    · exact ⟨a5, a6, a1⟩
    · exact ⟨c3, c4, Ne.symm b1⟩
    · exact ⟨d2, d3, Ne.symm b2⟩
    · exact ⟨e1, e2, Ne.symm b3⟩)) (lift_kc lift (fun q hq => (mu q hq).1) (by
    intro q hq vs
    simp only [List.mem_cons, List.not_mem_nil, or_false] at hq
    rcases hq with rfl | rfl | rfl <;> (intro h; cases h)))
  unfold lexDict at N
  obtain ⟨fd, sl, hfn⟩ := Sg.fn
  obtain ⟨kk, nn, hsd⟩ := Sg.dict
  have hrd : FnAt rd g := by
    obtain ⟨nm, qual, params, s1, s2, tg, lp, lb, ls, lpos, ap, s4, scope, dV, kV, doc, pm, an, cd, ct, oc, od, osl, q, pm', cr, ctv, _, e, _⟩ := Sg.rdo
    exact ⟨_, _, _, _, e⟩
  k_steps
  refine getMethod_fn (F.keep _ _ hfn) (F.keep _ _ hsd) rfl tl_rd rfl ?_
  k_steps
  refine Does.call (rd_does (H := H) (sg := sg) ⟨B.X, B.T, fun b o e => F.keep _ _ (up b o e)⟩ hC (Sg.keeps (fun b _ o e => F.keep b o e) fun b o e _ => F.keep b o e) (N _ (.tail _ (.tail _ (.head _)))).1 (fr _ (by simp)) (fr _ (by simp)) a1 hz D hok) ?_
  intro v h' tk' ⟨st1, g1, g2⟩
  have key : ∀ o, h'.get? sg = some o → Fr g L h' _ ∧ News g L h' [(lx, instObj 52 dx), (dx, dictOf (lexDict w k1 k2 k3 k4 t t3 ln st pb) 4), (sg, o)] := fun o ho => after F N st1 (fun a ha => by rw [List.mem_singleton.mp ha]; exact (N _ (.tail _ (.tail _ (.head _)))).2) (fun q hq => by
    simp only [List.mem_cons, List.not_mem_nil, or_false] at hq ⊢
    rcases hq with rfl | rfl | rfl
    · exact .inl ⟨.inl rfl, Ne.symm b4⟩
    · exact .inl ⟨.inr (.inl rfl), Ne.symm b5⟩
    · exact .inr ⟨ho, (N _ (.tail _ (.tail _ (.head _)))).2⟩)
  unfold lexDict at key
  have drp : ∀ b ∈ [lx, dx, sg], b ≠ lx → b ∈ [sg, dx] := by
    intro b hb hne
    simp only [List.mem_cons, List.not_mem_nil, or_false] at hb ⊢
    rcases hb with h | h | h
    · exact absurd h hne
    · exact .inr h
    · exact .inl h
  cases its with
  | nil =>
    obtain ⟨⟨tv, rfl⟩, n', e'⟩ := g1 rfl
    obtain ⟨F2, N2⟩ := key _ e'
    clear key
    k_steps
    rename News _ _ _ _ => N9
    rename Fr _ _ _ _ => F9
    have r0 := (N9 _ (.head _)).1
    have r1 := (N9 _ (.tail _ (.head _))).1
    have r2 := (N9 _ (.tail _ (.tail _ (.head _)))).1
    refine fin hR lift F9 rfl fun stays => ⟨stays.drop hlx r0 drp, fun _ => ⟨⟨_, rfl⟩, ⟨_, r2⟩, ⟨_, _, _, _, _, _, r1⟩⟩, fun c t r e => (nomatch e)⟩
  | cons x r =>
    obtain ⟨hv, n', e'⟩ := g2 _ _ rfl
    obtain ⟨d, es, hd, Dd, De⟩ := datAll_cons D
    have hx : ∃ c tc, x = .str c tc := by
      cases cs with
      | nil => cases hd
      | cons c cs => cases hd; cases Dd; exact ⟨_, _, rfl⟩
    obtain ⟨c, tc, rfl⟩ := hx
    subst hv
    obtain ⟨F2, N2⟩ := key _ e'
    clear key
    k_steps
    all_goals (
      rename News _ _ _ _ => N9
      rename Fr _ _ _ _ => F9
      have r0 := (N9 _ (.head _)).1
      have r1 := (N9 _ (.tail _ (.head _))).1
      have r2 := (N9 _ (.tail _ (.tail _ (.head _)))).1)
    · refine fin hR lift F9 rfl fun stays => ⟨stays.drop hlx r0 drp, fun e => (nomatch e), fun c' t' r' e => ?_⟩
      cases e
      rw [if_pos (by first | assumption | exact of_decide_eq_true (by assumption))]
      exact ⟨rfl, ⟨_, r2⟩, ⟨_, _, _, _, _, _, r1⟩⟩
    · refine fin hR lift F9 rfl fun stays => ⟨stays.drop hlx r0 drp, fun e => (nomatch e), fun c' t' r' e => ?_⟩
      cases e
      rw [if_neg (by first | assumption | exact of_decide_eq_false (by assumption))]
      exact ⟨rfl, ⟨_, r2⟩, ⟨_, _, _, _, _, _, r1⟩⟩
end Mine
end
section
open PySem PySem.W PyProof.Rows PySem.Calls
set_option maxRecDepth 100000
set_option maxHeartbeats 1000000
namespace Mine
theorem slot_cit_next : Slot "callable_iterator" "__next__" "callable_iterator.__next__" :=
  .of (owner := "callable_iterator") (n := "__next__") (by rw [typeLookup_type, builtinLookup_eq_fast]; kernel_rfl) (by decide +kernel) (by decide +kernel) (by decide +kernel)
    (by first | exact .inl (by decide +kernel) | exact .inr (by decide +kernel)) (by rw [isSubtype_type]; kernel_rfl)
theorem entry_cit_next : entryFor table "callable_iterator.__next__" = some Builtin.«callable_iterator.__next__» := entryFor_of_fast (by kernel_rfl)
theorem args_cit_next (a : Value) : argsOk "callable_iterator.__next__" ⟨[a], []⟩ := by unfold argsOk; kernel_rfl
theorem args_iter2 (a b : Value) : argsOk "iter" ⟨[a, b], []⟩ := by unfold argsOk; kernel_rfl
theorem tl_method_call : typeLookup (.type "method") (Str.ofString "__call__") = pure (some (.builtin "method.__call__")) := by rw [typeLookup_type, builtinLookup_eq_fast]; kernel_rfl
noncomputable abbrev citObj (q s e : Value) : Obj := { cls := .type "callable_iterator", data := .fields #[q, s, e] }
section
variable {prog : Program} {w : World} {A : Around} {E : Value → Shared → Prop} {s : Shared} {g : Heap} {L : Addr} {m : Str → Option Value} {news : List (Addr × Obj)}

theorem iter_cit {Q : Value → Shared → Prop} {q : Addr} {f self : Value} {sent : Value} (F : Fr g L s.heap m) (N : News g L s.heap news) (hq : (q, methodObj f self) ∈ news)
    (h : ∀ it h', Fr g L h' m → News g L h' ((it, citObj (.ref q) sent (.bool false)) :: news) → (∀ p ∈ news, p.1 < it) → Q (.ref it) { s with heap := h' }) :
    wpAny (model prog w) A (call (.builtin "iter") [.ref q, sent]) Q E s := by
  obtain ⟨hp, gg, dr, tk, os⟩ := s
  have hT : (⟨hp, gg, dr, tk, os⟩ : Shared).TypeIs (.ref q) "method" := ⟨_, (N _ hq).1, rfl⟩
  refine call_function_entry (by decide +kernel) (by decide +kernel) kdk_entry_iter (args_iter2 _ _) ?_
  unfold Builtin.«iter»
  refine wpAny_bind (m := someArgs "iter" 1 2 _) (wpAny_of_eq (a := [Value.ref q, sent]) (by first | rfl | kernel_rfl!) ?_)
  dsimp only
  refine wpAny_bind (wpAny_specialOf hT tl_method_call ?_)
  rw [if_neg (by decide)]
  repeat (any_goals (first | assumption | wp_step))
  exact ⟨_, rfl, h _ _ (F.push _) (News.push F N _ rfl) fun p hp => Heap.lt_size (N p hp).1⟩

theorem entry_cit_iter : entryFor table "callable_iterator.__iter__" = some Builtin.«dict_keyiterator.__iter__» := entryFor_alias (id' := "dict_keyiterator.__iter__") (by kernel_rfl) rfl (by decide +kernel) (by kernel_rfl)
theorem args_cit_iter (a : Value) : argsOk "callable_iterator.__iter__" ⟨[a], []⟩ := by unfold argsOk; kernel_rfl
theorem slot_cit_iter : Slot "callable_iterator" "__iter__" "callable_iterator.__iter__" :=
  .of (owner := "callable_iterator") (n := "__iter__") (by rw [typeLookup_type, builtinLookup_eq_fast]; kernel_rfl) (by decide +kernel) (by decide +kernel) (by decide +kernel)
    (by first | exact .inl (by decide +kernel) | exact .inr (by decide +kernel)) (by rw [isSubtype_type]; kernel_rfl)

theorem pyIter_cit {Q : Value → Shared → Prop} {it : Addr} {a b c : Value} (hit : s.heap.get? it = some (citObj a b c)) (h : Q (.ref it) s) : wpAny (model prog w) A (pyIter (.ref it)) Q E s := by
  obtain ⟨hp, gg, dr, tk, os⟩ := s
  have hT : (⟨hp, gg, dr, tk, os⟩ : Shared).TypeIs (.ref it) "callable_iterator" := ⟨_, hit, rfl⟩
  refine wpAny_pyIter_slot hT slot_cit_iter (wpAny_call_entry slot_cit_iter hT entry_cit_iter ?_ (args_cit_iter _))
  show wpAny _ _ (ret (.ref it)) _ _ _
  exact wpAny_pure ⟨_, rfl, "callable_iterator", _, hT, slot_cit_next.lookup, h⟩

theorem cit_next {Q : Option Value → Shared → Prop} {it q f : Addr} {self : Value} {t : Tok} {fo : Obj} {fd : FuncData} (hh : A.handled = none) (hit : s.heap.get? it = some (citObj (.ref q) (.str (Str.ofString "") t) (.bool false)))
    (hq : s.heap.get? q = some (methodObj (.ref f) self)) (hf : s.heap.get? f = some fo) (hfd : fo.data = .func fd)
    (h : codeAny (model prog w) A.in1 (.call (.ref q) ⟨[], []⟩) (fun r s' => match r with
      | .ok (.ret v) => (∃ x tx, v = .str x tx ∧ s'.heap.get? it = some (citObj (.ref q) (.str (Str.ofString "") t) (.bool false)) ∧ s'.heap.get? q = some (methodObj (.ref f) self) ∧ s'.heap.get? f = some fo ∧
          (x ≠ Str.ofString "" → Q (some v) s') ∧ (x = Str.ofString "" → ∀ h'', Stays [it] s'.heap h'' → h''.get? it = some (citObj .none .none (.bool true)) → Q none { s' with heap := h'' }))
      | _ => False) s) : wpAny (model prog w) A (pyNext (.ref it)) Q E s := by
  obtain ⟨hp, gg, dr, tk, os⟩ := s
  obtain ⟨fc, fdict, fdat, fsl⟩ := fo
  cases hfd
  have hT : (⟨hp, gg, dr, tk, os⟩ : Shared).TypeIs (.ref it) "callable_iterator" := ⟨_, hit, rfl⟩
  unfold pyNext
  refine wpAny_bind (wpAny_attempt ?_)
  refine wpAny_callSpecial?_slot (name := Str.ofString "__next__") hT slot_cit_next
    (wpAny_call_entry slot_cit_next hT entry_cit_next ?_ (args_cit_next _))
  unfold Builtin.«callable_iterator.__next__»
  refine wpAny_bind (wpAny_pure ?_)
  repeat (any_goals (first | assumption | wp_step))
  refine X.x_call ?_ (by intro e; cases e)
  refine codeAny_mono' h fun r s' hr => ?_
  rcases r with e | fl
  · exact hr.elim
  cases fl with
  | ret v =>
    obtain ⟨x, tx, rfl, e1, e2, e3, k1, k2⟩ := hr
    obtain ⟨hp', gg', dr', tk', os'⟩ := s'
    refine wpAny_pure ?_
    dsimp only
    refine wpAny_bind (wpAny_field e1 rfl rfl ?_)
    show wpAny _ _ (if (Value.bool false == Value.bool true) = true then _ else _) _ _ _
    rw [if_neg (by decide)]
    refine wpAny_bind (wpAny_field e1 rfl rfl ?_)
    refine wpAny_bind (wpAny_holding (wpAny_eqBool_str ?_))
    by_cases hx : x = Str.ofString ""
    · subst hx
      rw [if_neg (by decide)]
      repeat (any_goals (first | assumption | wp_step))
      unfold raiseNew
      have hh' : A.in1.handled = none := hh
      refine wpAny_bind (wpAny_handled_none hh' ?_)
      refine wpAny_bind (wpAny_pure ?_)
      refine wpAny_throw ?_
      refine wpAny_bind (wpAny_isInstance (T := "StopIteration") ⟨_, Heap.get?_push_size _ rfl, rfl⟩ isSubtype_stop ?_)
      rw [if_pos rfl]
      refine wpAny_pure (k2 rfl _ ?_ ?_)
      · intro b o e hb
        have hne : b ≠ it := fun q => hb (by rw [q]; exact .head _)
        refine Heap.get?_push_of_some _ (Heap.get?_push_of_some _ ?_)
        rw [(Heap.SameBut.update _ it _).2 b hne, (Heap.SameBut.update _ it _).2 b hne, (Heap.SameBut.update _ it _).2 b hne]
        exact e
      · refine Heap.get?_push_of_some _ (Heap.get?_push_of_some _ ?_)
        exact Heap.get?_update_self _ (Heap.get?_update_self _ (Heap.get?_update_self _ e1 rfl) rfl) rfl
    · rw [if_pos (by simp [Ne.symm hx])]
      refine wpAny_pure ⟨_, rfl, ?_⟩
      exact wpAny_pure (k1 hx)
  | _ => exact hr.elim
end
end Mine
end
section
open PySem PySem.W PyProof.Rows PySem.Calls
set_option maxRecDepth 100000
set_option maxHeartbeats 400000
namespace Mine
theorem fillK5Tok2 : (fun (_ : OpenLaw) (_ : Params → Frag) => True) PySem.Challenge.rw_ik0002_02 hd2.heap_39 := by
  k_fill
  trivial

structure LexG (w : World) (H g : Heap) (cl sg st sd rd lx dx pb it q : Addr) : Prop where
  B : Base (hd2.heap_39 w.params) H g
  hC : CodeHd H 83 81
  S : StrmFix (hd2.heap_39 w.params) 84 w g cl sg st sd rd
  fr : ∀ x ∈ [cl, sg, st, sd, rd, lx, dx, pb], H.get? x = none
  nd : [cl, sg, st, sd, rd, lx, dx, pb, it, q].Nodup

noncomputable abbrev tokNews (w : World) (sg st lx dx pb it q : Addr) (t0 : Tok) (its : List Value) (n np : Nat) (k1 k2 k3 k4 t t3 : Tok) (ln : Int) (pu : List Value) : List (Addr × Obj) :=
  [(it, citObj (.ref q) (.str (Str.ofString "") t0) (.bool false)), (q, methodObj (.ref 35) (.ref lx)), (lx, instObj 52 dx), (dx, dictOf (lexDict w k1 k2 k3 k4 t t3 ln st pb) 4), (pb, listOf pu.toArray np), (sg, listOf its.toArray n)]

noncomputable def TokAt (w : World) (g : Heap) (L : Addr) (sg st lx dx pb it q : Addr) (t0 : Tok) (its : List Value) (ln : Int) (m : Str → Option Value) (h : Heap) : Prop :=
  Fr g L h m ∧ ∃ n np k1 k2 k3 k4 t t3, News g L h (tokNews w sg st lx dx pb it q t0 its n np k1 k2 k3 k4 t t3 ln [])

structure Signs (its : List Value) (cs : List Str) : Prop where
  D : DatAll [] its (cs.map Dat.str)
  ok : ∀ d ∈ cs.map Dat.str, kqdOk 8 d = true
  one : ∀ c ∈ cs, c.length = 1
  len : its.length ≤ 100000

theorem Signs.cons {x : Value} {r : List Value} {cs : List Str} (S : Signs (x :: r) cs) : ∃ c cs' t, cs = c :: cs' ∧ x = .str c t ∧ c ≠ Str.ofString "" ∧ Signs r cs' ∧ c.length = 1 := by
  obtain ⟨D, ok, one, len⟩ := S
  cases cs with
  | nil => cases D
  | cons c cs =>
    cases D with
    | cons a b =>
      cases a
      exact ⟨c, cs, _, rfl, rfl, fun e => (nomatch (e ▸ one c (.head _) : (Str.ofString "").length = 1)), ⟨b, fun d hd => ok d (.tail _ hd), fun c hc => one c (.tail _ hc), Nat.le_of_succ_le len⟩, one c (.head _)⟩
theorem Signs.lenEq {its : List Value} {cs : List Str} (S : Signs its cs) : its.length = cs.length := by
  have := S.D.length
  rwa [List.length_map] at this
theorem Signs.len2 {its : List Value} {cs : List Str} (S : Signs its cs) : cs.length ≤ 100000 := S.lenEq ▸ S.len
theorem Signs.uncons {its : List Value} {c : Str} {cs : List Str} (S : Signs its (c :: cs)) : ∃ t r, its = .str c t :: r ∧ Signs r cs ∧ c.length = 1 := by
  cases its with
  | nil => cases S.D
  | cons x r =>
    obtain ⟨c', cs', t, e, rfl, _, S', h1⟩ := S.cons
    cases e
    exact ⟨t, r, rfl, S', h1⟩
theorem Signs.nil {cs : List Str} (S : Signs [] cs) : cs = [] := by
  cases cs with
  | nil => rfl
  | cons c cs => cases S.D

section
variable {w : World} {H g : Heap} {L cl sg st sd rd lx dx pb it q : Addr} {t0 : Tok} {its r : List Value} {cs : List Str} {ln : Int} {m : Str → Option Value} {s : Shared} {A : Around} {E : Value → Shared → Prop} {c : Str} {tc : Tok}

theorem TokAt.read (G : LexG w H g cl sg st sd rd lx dx pb it q) (T : TokAt w g L sg st lx dx pb it q t0 its ln m s.heap) (S : Signs its cs) :
    Does PySem.Challenge.pw_ik0002_02 w 7 (.ref 35) [.ref lx] s (fun v h' => Stays [sg, dx] s.heap h' ∧ (its = [] → (∃ t, v = .str (Str.ofString "") t) ∧ TokAt w g L sg st lx dx pb it q t0 [] ln m h') ∧
      (∀ c t r, its = .str c t :: r → v = .str c t ∧ TokAt w g L sg st lx dx pb it q t0 r (if c = Str.ofString "\n" then ln + 1 else ln) m h')) := by
  obtain ⟨F, n, np, k1, k2, k3, k4, t, t3, N⟩ := T
  have n0 := N _ (.head _)
  have n1 := N _ (.tail _ (.head _))
  have n2 := N _ (.tail _ (.tail _ (.head _)))
  have n3 := N _ (.tail _ (.tail _ (.tail _ (.head _))))
  have n4 := N _ (.tail _ (.tail _ (.tail _ (.tail _ (.head _)))))
  have n5 := N _ (.tail _ (.tail _ (.tail _ (.tail _ (.tail _ (.head _))))))
  have nd := G.nd
  simp only [List.nodup_cons, List.mem_cons, List.not_mem_nil, or_false, not_or, List.nodup_nil, and_true, not_false_eq_true] at nd
  obtain ⟨⟨a1, a2, a3, a4, a5, a6, a7, a8, a9⟩, ⟨b1, b2, b3, b4, b5, b6, b7, b8⟩, ⟨c1, c2, c3, c4, c5, c6, c7⟩, ⟨d1, d2, d3, d4, d5, d6⟩, ⟨e1, e2, e3, e4, e5⟩, ⟨f1, f2, f3, f4⟩, ⟨g1, g2, g3⟩, ⟨i1, i2⟩, j1⟩ := nd
  refine (read_does (H := H) (sg := sg) (cl := cl) (st := st) (sd := sd) (rd := rd) ⟨G.B.X, G.B.T, fun b o e => F.keep _ _ (G.B.up b o e)⟩ G.hC (G.S.keeps (fun b _ o e => F.keep b o e) fun b o e _ => F.keep b o e) n5.1 n2.1 ⟨_, _, _, _, _, _, n3.1⟩
    (fun x hx => G.fr x (by simp only [List.mem_cons, List.not_mem_nil, or_false] at hx ⊢; rcases hx with h | h | h | h | h | h | h <;> simp [h])) ?_ S.len S.D S.ok).mono ?_
  · simp only [List.nodup_cons, List.mem_cons, List.not_mem_nil, or_false, not_or, List.nodup_nil, and_true, not_false_eq_true]
    exact ⟨⟨a1, a2, a3, a4, a5, a6⟩, ⟨b1, b2, b3, b4, b5⟩, ⟨c1, c2, c3, c4⟩, ⟨d1, d2, d3⟩, ⟨e1, e2⟩, f1⟩
  · rintro v h' ⟨stays, p1, p2⟩
    have key : ∀ its' ln', (∃ n, h'.get? sg = some (listOf its'.toArray n)) → LexDict w h' dx ln' st pb → TokAt w g L sg st lx dx pb it q t0 its' ln' m h' := by
      rintro its' ln' ⟨n', e1'⟩ ⟨l1, l2, l3, l4, u, u3, e2'⟩
      obtain ⟨F', N'⟩ := after (news' := tokNews w sg st lx dx pb it q t0 its' n' np l1 l2 l3 l4 u u3 ln' []) F N stays (fun a ha => by
        revert a
        refine all_cons ?_ (all_cons ?_ all_nil)
        · exact n5.2
        · exact n3.2) (fun p hp => by
        simp only [List.mem_cons, List.not_mem_nil, or_false] at hp ⊢
        rcases hp with rfl | rfl | rfl | rfl | rfl | rfl
        · exact .inl ⟨.inl rfl, fun h => h.elim (fun h => b7 h.symm) fun h => g2 h.symm⟩
        · exact .inl ⟨.inr (.inl rfl), fun h => h.elim (fun h => b8 h.symm) fun h => g3 h.symm⟩
        · exact .inl ⟨.inr (.inr (.inl rfl)), fun h => h.elim (fun h => b4 h.symm) fun h => f1 h⟩
        · exact .inr ⟨e2', n3.2⟩
        · exact .inl ⟨.inr (.inr (.inr (.inr (.inl rfl)))), fun h => h.elim (fun h => b6 h.symm) fun h => g1 h.symm⟩
        · exact .inr ⟨e1', n5.2⟩)
      exact ⟨F', n', np, l1, l2, l3, l4, u, u3, N'⟩
    refine ⟨stays, fun e => ?_, fun c t r e => ?_⟩
    · obtain ⟨y1, y2, y3⟩ := p1 e
      subst e
      exact ⟨y1, key _ _ y2 y3⟩
    · obtain ⟨y1, y2, y3⟩ := p2 _ _ _ e
      exact ⟨y1, key _ _ y2 y3⟩

noncomputable def TokEnd (w : World) (g : Heap) (L : Addr) (sg st lx dx pb q : Addr) (ln : Int) (m : Str → Option Value) (h : Heap) : Prop :=
  Fr g L h m ∧ ∃ n np k1 k2 k3 k4 t t3, News g L h [(q, methodObj (.ref 35) (.ref lx)), (lx, instObj 52 dx), (dx, dictOf (lexDict w k1 k2 k3 k4 t t3 ln st pb) 4), (pb, listOf #[] np), (sg, listOf #[] n)]

theorem TokAt.next {Q : Option Value → Shared → Prop} (G : LexG w H g cl sg st sd rd lx dx pb it q) (T : TokAt w g L sg st lx dx pb it q t0 its ln m s.heap) (S : Signs its cs)
    (hh : A.handled = none) (hd : A.depth ≤ (lvl 7).depth) (hu : A.units + 1 ≤ (lvl 7).units)
    (h0 : its = [] → ∀ h' tk', TokEnd w g L sg st lx dx pb q ln m h' → Q none { s with heap := h', toks := tk' })
    (h1 : ∀ c t r, its = .str c t :: r → ∀ h' tk', TokAt w g L sg st lx dx pb it q t0 r (if c = Str.ofString "\n" then ln + 1 else ln) m h' → Q (some (.str c t)) { s with heap := h', toks := tk' }) :
    wpAny (model PySem.Challenge.pw_ik0002_02 w) A (pyNext (.ref it)) Q E s := by
  have T' := T
  obtain ⟨F, n, np, k1, k2, k3, k4, t, t3, N⟩ := T'
  have n0 := N _ (.head _)
  have n1 := N _ (.tail _ (.head _))
  have n3 := N _ (.tail _ (.tail _ (.tail _ (.head _))))
  have n5 := N _ (.tail _ (.tail _ (.tail _ (.tail _ (.tail _ (.head _))))))
  have nd := G.nd
  simp only [List.nodup_cons, List.mem_cons, List.not_mem_nil, or_false, not_or, List.nodup_nil, and_true, not_false_eq_true] at nd
  obtain ⟨⟨a1, a2, a3, a4, a5, a6, a7, a8, a9⟩, ⟨b1, b2, b3, b4, b5, b6, b7, b8⟩, ⟨c1, c2, c3, c4, c5, c6, c7⟩, ⟨d1, d2, d3, d4, d5, d6⟩, ⟨e1, e2, e3, e4, e5⟩, ⟨f1, f2, f3, f4⟩, ⟨g1, g2, g3⟩, ⟨i1, i2⟩, j1⟩ := nd
  obtain ⟨fo, fd, hfo, hfd⟩ := fnIn_get (f := 35) (G.B.X.keeps G.B.up) (by k_is)
  refine cit_next hh n0.1 n1.1 (F.keep _ _ hfo) hfd ?_
  refine method_call n1.1 ((T.read G S).code hh hd hu fun v h' tk' ⟨stays, p0, p1⟩ => ?_)
  have keepF : ∀ o, g.get? 35 = some o → h'.get? 35 = some o := fun o e => stays _ _ (F.keep _ _ e) (by
    intro hm
    simp only [List.mem_cons, List.not_mem_nil, or_false] at hm
    rcases hm with h | h
    · rw [← h, e] at n5; exact nomatch n5.2.2
    · rw [← h, e] at n3; exact nomatch n3.2.2)
  have e0 := stays _ _ n0.1 (by simp only [List.mem_cons, List.not_mem_nil, or_false, not_or]; exact ⟨Ne.symm b7, Ne.symm g2⟩)
  have e1' := stays _ _ n1.1 (by simp only [List.mem_cons, List.not_mem_nil, or_false, not_or]; exact ⟨Ne.symm b8, Ne.symm g3⟩)
  cases its with
  | nil =>
    obtain ⟨⟨tv, rfl⟩, T1⟩ := p0 rfl
    refine ⟨_, _, rfl, e0, e1', keepF _ hfo, fun h => absurd rfl h, fun _ h'' st'' _ => ?_⟩
    obtain ⟨F1, n', np', l1, l2, l3, l4, u, u3, N1⟩ := T1
    obtain ⟨F2, N2⟩ := after (news' := [(q, methodObj (.ref 35) (.ref lx)), (lx, instObj 52 dx), (dx, dictOf (lexDict w l1 l2 l3 l4 u u3 ln st pb) 4), (pb, listOf #[] np'), (sg, listOf #[] n')]) F1 N1 st'' (fun a ha => by
      rw [List.mem_singleton.mp ha]; exact n0.2) (fun p hp => .inl ⟨.tail _ hp, by
      simp only [List.mem_cons, List.not_mem_nil, or_false] at hp ⊢
      rcases hp with rfl | rfl | rfl | rfl | rfl
      · exact Ne.symm j1
      · exact f3
      · exact g2
      · exact i1
      · exact b7⟩)
    exact h0 rfl h'' tk' ⟨F2, n', np', l1, l2, l3, l4, u, u3, N2⟩
  | cons x r =>
    obtain ⟨c, cs', tc, rfl, rfl, hc, S', _⟩ := S.cons
    obtain ⟨rfl, T1⟩ := p1 _ _ _ rfl
    exact ⟨_, _, rfl, e0, e1', keepF _ hfo, fun _ => h1 _ _ _ rfl h' tk' T1, fun h => absurd h hc⟩
end
end Mine
end
section
open PySem PySem.W PyProof.Rows PySem.Calls
set_option maxRecDepth 100000
set_option maxHeartbeats 400000
namespace Mine
theorem fillK6Get2 : (fun (_ : OpenLaw) (_ : Params → Frag) => True) PySem.Challenge.rw_ik0002_02 hd2.heap_39 := by
  k_fill
  trivial

noncomputable def inkB (c : Str) : Bool := (Builtin.Str.occurrences (Str.ofString "\n\t\u000d ") c 0 (Str.ofString "\n\t\u000d ").length 1).isEmpty
noncomputable def tokQ (acc : Str) : List Str → Option (Str × List Str)
  | [] => none
  | c :: r => if c == Str.ofString "\"" then some (acc, r) else if c == Str.ofString "\\" then (match r with | [] => none | d :: r' => tokQ (acc ++ d) r') else tokQ (acc ++ c) r
noncomputable def tokB (acc : Str) : List Str → Option (Str × List Str)
  | [] => none
  | c :: r => if inkB c = false then some (acc, r) else if c == Str.ofString "\\" then (match r with | [] => none | d :: r' => tokB (acc ++ d) r') else tokB (acc ++ c) r
theorem tokQ_cons (acc c : Str) (r : List Str) : tokQ acc (c :: r) = if c == Str.ofString "\"" then some (acc, r) else if c == Str.ofString "\\" then (match r with | [] => none | d :: r' => tokQ (acc ++ d) r') else tokQ (acc ++ c) r := by
  cases r <;> rfl
theorem tokB_cons (acc c : Str) (r : List Str) : tokB acc (c :: r) = if inkB c = false then some (acc, r) else if c == Str.ofString "\\" then (match r with | [] => none | d :: r' => tokB (acc ++ d) r') else tokB (acc ++ c) r := by
  cases r <;> rfl
noncomputable def tokO : List Str → Option (Str × List Str)
  | [] => some (Str.ofString "", [])
  | c :: r => if inkB c = false then tokO r else if c == Str.ofString "\"" then tokQ (Str.ofString "") r else
    if c == Str.ofString "\\" then (match r with | [] => none | d :: r' => tokB (Str.ofString "" ++ d) r') else tokB (Str.ofString "" ++ c) r
noncomputable def nls : List Str → Int
  | [] => 0
  | c :: r => (if c = Str.ofString "\n" then 1 else 0) + nls r
theorem nls_step {ln T : Int} {c : Str} {r : List Str} (h : ln + nls (c :: r) = T) : (if c = Str.ofString "\n" then ln + 1 else ln) + nls r = T := by
  unfold nls at h
  split <;> rename_i q
  · rw [if_pos q] at h; omega
  · rw [if_neg q] at h; omega
noncomputable def GetPost (w : World) (sg dx st pb : Addr) (T : Int) (wd : Str) (rest : List Str) (h : Heap) (v : Value) (h' : Heap) : Prop :=
  Stays [sg, dx, pb] h h' ∧ (∃ t, v = .str wd t) ∧ ∃ its n np ln, Signs its rest ∧ ln + nls rest = T ∧ h'.get? sg = some (listOf its.toArray n) ∧ LexDict w h' dx ln st pb ∧ h'.get? pb = some (listOf #[] np)
theorem getFin {w : World} {s s' : Shared} {R : Result → Shared → Prop} {g : Heap} {L sg dx st pb lx : Addr} {m : Str → Option Value} {TT ln : Int} {wd : Str} {rest : List Str} {tw : Tok} {its : List Value} {n np : Nat} {o1 o2 o3 : Obj}
   (hR : ∀ v h' tk', GetPost w sg dx st pb TT wd rest s.heap v h' → R (.ok (.ret v)) { s with heap := h', toks := tk' })
   (lift : ∀ b o, s.heap.get? b = some o → b ∉ [(lx, instObj 52 dx), (dx, o1), (pb, o2), (sg, o3)].map (·.1) → g.get? b = some o) (hlx : s.heap.get? lx = some (instObj 52 dx))
   (F : Fr g L s'.heap m) (hs : s' = { s with heap := s'.heap, toks := s'.toks }) (SS : Signs its rest) (hl : ln + nls rest = TT) (hd : LexDict w s'.heap dx ln st pb)
   (e1 : s'.heap.get? lx = some (instObj 52 dx)) (e2 : s'.heap.get? pb = some (listOf #[] np)) (e3 : s'.heap.get? sg = some (listOf its.toArray n)) : R (.ok (.ret (.str wd tw))) s' := by
  refine fin (S := [sg, dx, pb, lx]) hR (fun b o e hb => lift b o e fun hm => hb ?_) F hs (fun hst => ⟨hst.drop hlx e1 ?_, ⟨_, rfl⟩, _, _, _, _, SS, hl, e3, hd, e2⟩)
  · simp only [List.map_cons, List.map_nil, List.mem_cons, List.not_mem_nil, or_false] at hm ⊢
    rcases hm with h | h | h | h <;> simp [h]
  · intro b hb hne
    simp only [List.mem_cons, List.not_mem_nil, or_false] at hb ⊢
    rcases hb with h | h | h | h
    · simp [h]
    · simp [h]
    · simp [h]
    · exact absurd h hne
theorem neOf {g : Heap} {a b : Addr} {o : Obj} (h : g.get? a = some o) (h' : g.get? b = none) : ¬ a = b := fun e => by rw [e, h'] at h; cases h
theorem neLt {a b : Nat} (h : a < b) : ¬ a = b := Nat.ne_of_lt h
noncomputable def InvX (f : Str → List Str → Option (Str × List Str)) (w : World) (g : Heap) (L sg st lx dx pb it q : Addr) (t0 : Tok) (wd : Str) (rest : List Str) (TT : Int) (s : Shared) (k : Nat) (s' : Shared) : Prop :=
  ∃ its cs ln' tok tt och, k = its.length ∧ f tok cs = some (wd, rest) ∧ ln' + nls cs = TT ∧ tok.length + cs.length ≤ 100000 ∧ Signs its cs ∧ TokAt w g L sg st lx dx pb it q t0 its ln' (tkM lx it tok tt och) s'.heap ∧ s' = { s with heap := s'.heap, toks := s'.toks }
theorem rows4 : True := by
  k_with_none
  k_with "exec For Name Name cons nil" => ((k_here; with_reducible refine wpAny_For ?_ (fun _ => rfl)))
  trivial
set_option maxHeartbeats 2000000 in
theorem get_does {wd : Str} {rest : List Str} {w : World} {H : Heap} {s : Shared} {cl sg st sd rd lx dx pb : Addr} {its : List Value} {n np : Nat} {cs : List Str} {ln : Int}
   (B : Base (hd2.heap_39 w.params) H s.heap) (hC : CodeHd H 83 81) (S : StrmFix (hd2.heap_39 w.params) 84 w s.heap cl sg st sd rd) (hsg : s.heap.get? sg = some (listOf its.toArray n))
   (hlx : s.heap.get? lx = some (instObj 52 dx)) (hdx : LexDict w s.heap dx ln st pb) (hpb : s.heap.get? pb = some (listOf #[] np))
   (fr : ∀ x ∈ [cl, sg, st, sd, rd, lx, dx, pb], H.get? x = none) (nd : [cl, sg, st, sd, rd, lx, dx, pb].Nodup) (SS : Signs its cs) (hT : tokO cs = some (wd, rest)) :
   Does PySem.Challenge.pw_ik0002_02 w 6 (.ref 42) [.ref lx] s (GetPost w sg dx st pb (ln + nls cs) wd rest s.heap) := by
  obtain ⟨k1, k2, k3, k4, t, t3, hdx⟩ := hdx
  have nd' := nd
  simp only [List.nodup_cons, List.mem_cons, List.not_mem_nil, or_false, not_or, List.nodup_nil, and_true, not_false_eq_true] at nd
  obtain ⟨⟨a1, a2, a3, a4, a5, a6, a7⟩, ⟨b1, b2, b3, b4, b5, b6⟩, ⟨c1, c2, c3, c4, c5⟩, ⟨d1, d2, d3, d4⟩, ⟨e1, e2, e3⟩, ⟨f1, f2⟩, g1⟩ := nd
  have b4' := neN b4
  have b5' := neN b5
  have b6' := neN b6
  have f1' := neN f1
  have f2' := neN f2
  have g1' := neN g1
  have mu : ∀ q ∈ [(lx, instObj 52 dx), (dx, dictOf (lexDict w k1 k2 k3 k4 t t3 ln st pb) 4), (pb, listOf #[] np), (sg, listOf its.toArray n)], s.heap.get? q.1 = some q.2 ∧ H.get? q.1 = none := by
    intro q hq
    revert q
    refine all_cons ?_ (all_cons ?_ (all_cons ?_ (all_cons ?_ all_nil)))
    · exact ⟨hlx, fr _ (by simp)⟩
    · exact ⟨hdx, fr _ (by simp)⟩
    · exact ⟨hpb, fr _ (by simp)⟩
    · exact ⟨hsg, fr _ (by simp)⟩
  generalize hTT : ln + nls cs = TT
  intro R hR
  refine' enter (muts := [(lx, instObj 52 dx), (dx, dictOf (lexDict w k1 k2 k3 k4 t t3 ln st pb) 4), (pb, listOf #[] np), (sg, listOf its.toArray n)]) B mu ?ho ?hcd ?hroom ?hbind ?hloc ?hcell ?hco ?hgen ?hk ?h
  case ho => k_is
  case hcd => k_is
  case hroom => decide
  case hbind => exact BindsTo.of_eq rfl
  case hloc => exact locs rfl
  case hcell => decide
  case hco => rfl
  case hgen => rfl
  case hk => rfl
  intro g L h₁ p loose mean mg mb X T F N hlt lift hL up
  have hCg := hC.keeps up
  have Sg : StrmFix (hd2.heap_39 w.params) 84 w g cl sg st sd rd := S.keeps (fun b hb o e => lift b o e (by
    simp only [List.mem_cons, List.not_mem_nil, or_false] at hb
    simp only [List.map_cons, List.map_nil, List.mem_cons, List.not_mem_nil, or_false, not_or]
    rcases hb with rfl | rfl | rfl | rfl
    · exact ⟨a5, a6, a7, a1⟩
    · exact ⟨c3, c4, c5, Ne.symm b1⟩
    · exact ⟨d2, d3, d4, Ne.symm b2⟩
    · exact ⟨e1, e2, e3, Ne.symm b3⟩)) (lift_kc lift (fun q hq => (mu q hq).1) (by
    intro q hq vs
    simp only [List.mem_cons, List.not_mem_nil, or_false] at hq
    rcases hq with rfl | rfl | rfl | rfl <;> (intro h; cases h)))
  unfold lexDict at N
  k_steps
  rename_i _ q h2 F2 N2 l2
  refine iter_cit F2 N2 (.head _) ?_
  intro it h3 F3 N3 l3
  k_lt l3
  k_steps
  (try clear F2); (try clear N2); (try clear F3); (try clear N3)
  rename News _ _ _ _ => N1
  rename Fr _ _ _ _ => F1
  refine pyIter_cit (N1 _ (.head _)).1 ?_
  have G : LexG w H g cl sg st sd rd lx dx pb it q := ⟨⟨B.X, B.T, up⟩, hC, Sg, fr, by
    obtain ⟨_, ck, _⟩ := Sg.cell
    obtain ⟨_, _, fk⟩ := Sg.fn
    obtain ⟨_, _, dk⟩ := Sg.dict
    obtain ⟨_, _, _, _, _, _, _, _, _, _, _, _, _, _, _, _, _, _, _, _, _, _, _, _, _, _, _, _, rk, _⟩ := Sg.rdo
    simp only [List.nodup_cons, List.mem_cons, List.not_mem_nil, or_false, not_or, List.nodup_nil, and_true, not_false_eq_true]
    refine ⟨⟨a1, a2, a3, a4, a5, a6, a7, ?_, ?_⟩, ⟨b1, b2, b3, b4, b5, b6, ?_, ?_⟩, ⟨c1, c2, c3, c4, c5, ?_, ?_⟩, ⟨d1, d2, d3, d4, ?_, ?_⟩, ⟨e1, e2, e3, ?_, ?_⟩, ⟨f1, f2, ?_, ?_⟩, ⟨g1, ?_, ?_⟩, ⟨?_, ?_⟩, ?_⟩
    all_goals first
      | exact neOf ck (N1 _ (.head _)).2.2
      | exact neOf ck (N1 _ (.tail _ (.head _))).2.2
      | exact neOf fk (N1 _ (.head _)).2.2
      | exact neOf fk (N1 _ (.tail _ (.head _))).2.2
      | exact neOf dk (N1 _ (.head _)).2.2
      | exact neOf dk (N1 _ (.tail _ (.head _))).2.2
      | exact neOf rk (N1 _ (.head _)).2.2
      | exact neOf rk (N1 _ (.tail _ (.head _))).2.2
      | exact neLt l3.2.2.2.2
      | exact neLt l3.2.1
      | exact neLt l3.2.2.1
      | exact neLt l3.2.2.2.1
      | exact Ne.symm (neLt l3.1)
      | exact neLt l2.1
      | exact neLt l2.2.1
      | exact neLt l2.2.2.1
      | exact neLt l2.2.2.2⟩
  refine forLoopA (fun k s' => ∃ its cs ln' tt och t0, k = its.length ∧ tokO cs = some (wd, rest) ∧ ln' + nls cs = TT ∧ Signs its cs ∧ TokAt w g L sg st lx dx pb it q t0 its ln' (tkM lx it (Str.ofString "") tt och) s'.heap ∧ s' = { s with heap := s'.heap, toks := s'.toks }) ?turn its.length ?init (fun _ => rfl)
  case init =>
    exact ⟨its, cs, ln, _, none, _, rfl, hT, hTT, SS, ⟨tkInit F1 (fun y => rfl), n, np, k1, k2, k3, k4, t, t3, N1⟩, rfl⟩
  intro k s1 hI Nx1 R1 hNx1 hR1
  obtain ⟨its1, cs1, ln1, tt, och, t0, hk, hT1, hln, S1, TA, hs1⟩ := hI
  refine TA.next G S1 rfl (Nat.le_of_ble_eq_true rfl) (Nat.le_of_ble_eq_true rfl) (fun he h' tk' TE => ?_) (fun c t r he h' tk' TA1 => ?_)
  · obtain ⟨F4, n4, np4, l1, l2, l3, l4, u, u3, N4⟩ := TE
    subst he
    have := S1.nil
    subst this
    cases hT1
    k_steps
    refine hR1 _ _ ?_
    show wpAny _ _ (execs _ _) _ _ _
    k_steps
    exact getFin hR lift hlx F4 (by rw [hs1]) S1 hln ⟨_, _, _, _, _, _, (N4 _ (.tail _ (.tail _ (.head _)))).1⟩ (N4 _ (.tail _ (.head _))).1 (N4 _ (.tail _ (.tail _ (.tail _ (.head _))))).1 (N4 _ (.tail _ (.tail _ (.tail _ (.tail _ (.head _)))))).1
  · obtain ⟨c', r', tc, rfl, e1, hc, S2, hc1⟩ := (he ▸ S1).cons
    cases e1
    have hln2 := nls_step hln
    simp only [tokO] at hT1
    obtain ⟨F4, n4, np4, l1, l2, l3, l4, u, u3, N4⟩ := TA1
    k_steps
    all_goals (try rename Fr _ _ _ _ => F9)
    · rename (Builtin.Str.occurrences _ _ _ _ _).isEmpty = _ => aw
      rename (_ == _) = true => aq
      rw [aq] at hT1
      rw [show inkB c = true from aw] at hT1
      rename News _ _ _ _ => N9
      refine pyIter_cit (N9 _ (.head _)).1 ?_
      refine forLoopA (InvX tokQ w g L sg st lx dx pb it q t0 wd rest TT s) ?turn2 r.length ?init2 (fun _ => rfl)
      case init2 =>
        exact ⟨r, r', _, Str.ofString "", tt, _, rfl, hT1, hln2, by have := S1.len2; simp only [List.length_cons] at this ⊢; exact Nat.le_trans (Nat.le_of_eq (Nat.zero_add _)) (Nat.le_of_succ_le this), S2, ⟨tkCh F9, n4, np4, l1, l2, l3, l4, u, u3, N9⟩, by rw [hs1]⟩
      intro k s3 hI Nx3 R3 hNx3 hR3
      obtain ⟨its3, cs3, ln3, tok3, tt3, och3, hk3, hT3, hln3, hz3, S3, TA3, hs3⟩ := hI
      refine TA3.next G S3 rfl (Nat.le_of_ble_eq_true rfl) (Nat.le_of_ble_eq_true rfl) (fun he h' tk' TE => ?_) (fun c t r he h' tk' TA4 => ?_)
      · subst he
        have := S3.nil
        subst this
        cases hT3
      obtain ⟨c5, r5, tc5, rfl, e5, hc5, S5, hc51⟩ := (he ▸ S3).cons
      cases e5
      have hln5 := nls_step hln3
      obtain ⟨F5, n5, np5, l1, l2, l3, l4, u, u3, N5⟩ := TA4
      rw [tokQ_cons] at hT3
      k_steps
      all_goals (try rename Fr _ _ _ _ => F10)
      all_goals (try rename News _ _ _ _ => N10)
      · rename (_ == _) = true => a1
        rw [if_pos a1] at hT3
        cases hT3
        exact hR3 _ _ (hR1 _ _ (getFin hR lift hlx F10 (by rw [hs3]) S5 hln5 ⟨_, _, _, _, _, _, (N10 _ (.tail _ (.tail _ (.tail _ (.head _))))).1⟩ (N10 _ (.tail _ (.tail _ (.head _)))).1 (N10 _ (.tail _ (.tail _ (.tail _ (.tail _ (.head _)))))).1 (N10 _ (.tail _ (.tail _ (.tail _ (.tail _ (.tail _ (.head _))))))).1))
      · rename (_ == _) = false => a1
        rename (_ == _) = true => a2
        rw [a1, if_neg (by decide), if_pos a2] at hT3
        have TA6 : TokAt w g L sg st lx dx pb it q t0 _ _ (tkM lx it tok3 tt3 _) _ := ⟨tkCh F10, n5, np5, l1, l2, l3, l4, u, u3, N10⟩
        cases r5 with
        | nil => cases hT3
        | cons d r6 =>
          obtain ⟨tc7, r7, e8, S7, hc71⟩ := S5.uncons
          subst e8
          refine Does.call (TA6.read G S5) fun v h' tk' hp => ?_
          obtain ⟨hst, _, p1⟩ := hp
          obtain ⟨rfl, TA7⟩ := p1 _ _ _ rfl
          obtain ⟨F11, n7, np7, l1, l2, l3, l4, u, u3, N11⟩ := TA7
          have hln7 := nls_step hln5
          simp only [List.length_cons] at hz3
          k_steps
          rename Fr _ _ _ _ => F12
          rename News _ _ _ _ => N12
          exact hNx3 _ (.mk r7.length (by have := congrArg List.length he; simp only [List.length_cons] at this; omega) ⟨_, _, _, _, _, _, rfl, hT3, hln7, by rw [Str.length_append]; omega, S7, ⟨tkTokCh F12, n7, np7, _, _, _, _, _, _, N12⟩, by rw [hs3]⟩)
      · rename (_ == Str.ofString "\\") = false => a2
        rename (_ == Str.ofString "\"") = false => a1
        rw [a1, if_neg (by decide), a2, if_neg (by decide)] at hT3
        simp only [List.length_cons] at hz3
        exact hNx3 _ (.mk r.length (by have := congrArg List.length he; simp only [List.length_cons] at this; omega) ⟨_, _, _, _, _, _, rfl, hT3, hln5, by rw [Str.length_append]; omega, S5, ⟨tkTokCh F10, n5, np5, _, _, _, _, _, _, N10⟩, by rw [hs3]⟩)
    · rename (Builtin.Str.occurrences _ _ _ _ _).isEmpty = _ => aw
      rename (_ == _) = true => a2
      rename (_ == Str.ofString "\"") = false => a1
      rw [show inkB c = true from aw, if_neg (by decide), a1, if_neg (by decide), if_pos a2] at hT1
      rename News _ _ _ _ => N9
      have TA6 : TokAt w g L sg st lx dx pb it q t0 _ _ (tkM lx it (Str.ofString "") tt _) _ := ⟨tkCh F9, n4, np4, l1, l2, l3, l4, u, u3, N9⟩
      cases r' with
      | nil => cases hT1
      | cons d r6 =>
        obtain ⟨tc7, r7, e8, S7, hc71⟩ := S2.uncons
        subst e8
        refine Does.call (TA6.read G S2) fun v h' tk' hp => ?_
        obtain ⟨hst, _, p1⟩ := hp
        obtain ⟨rfl, TA7⟩ := p1 _ _ _ rfl
        obtain ⟨F11, n7, np7, l1, l2, l3, l4, u, u3, N11⟩ := TA7
        have hln7 := nls_step hln2
        k_steps
        rename Fr _ _ _ _ => F9
        rename News _ _ _ _ => N9
        refine pyIter_cit (N9 _ (.head _)).1 ?_
        refine forLoopA (InvX tokB w g L sg st lx dx pb it q t0 wd rest TT s) ?turn3 r7.length ?init3 (fun _ => rfl)
        case init3 =>
          exact ⟨r7, r6, _, _, _, _, rfl, hT1, hln7, by rw [Str.length_append, show (Str.ofString "").length = 0 from rfl]; have := S1.len2; simp only [List.length_cons] at this; omega, S7, ⟨tkTokCh F9, n7, np7, _, _, _, _, _, _, N9⟩, by rw [hs1]⟩
        intro k s3 hI Nx3 R3 hNx3 hR3
        obtain ⟨its3, cs3, ln3, tok3, tt3, och3, hk3, hT3, hln3, hz3, S3, TA3, hs3⟩ := hI
        refine TA3.next G S3 rfl (Nat.le_of_ble_eq_true rfl) (Nat.le_of_ble_eq_true rfl) (fun he h' tk' TE => ?_) (fun c t r he h' tk' TA4 => ?_)
        · subst he
          have := S3.nil
          subst this
          cases hT3
        obtain ⟨c5, r5, tc5, rfl, e5, hc5, S5, hc51⟩ := (he ▸ S3).cons
        cases e5
        have hln5 := nls_step hln3
        obtain ⟨F5, n5, np5, l1, l2, l3, l4, u, u3, N5⟩ := TA4
        rw [tokB_cons] at hT3
        simp only [List.length_cons] at hz3
        k_steps
        all_goals (try rename Fr _ _ _ _ => F10)
        all_goals (try rename News _ _ _ _ => N10)
        · rename (_ == _) = true => a2
          rename (Builtin.Str.occurrences _ _ _ _ _).isEmpty = _ => aw
          rw [show inkB c = true from aw, if_neg (by decide), if_pos a2] at hT3
          have TA6 : TokAt w g L sg st lx dx pb it q t0 _ _ (tkM lx it tok3 tt3 _) _ := ⟨tkCh F10, n5, np5, l1, l2, l3, l4, u, u3, N10⟩
          cases r5 with
          | nil => cases hT3
          | cons d r6 =>
            obtain ⟨tc7, r7, e8, S7, hc71⟩ := S5.uncons
            subst e8
            refine Does.call (TA6.read G S5) fun v h' tk' hp => ?_
            obtain ⟨hst, _, p1⟩ := hp
            obtain ⟨rfl, TA7⟩ := p1 _ _ _ rfl
            obtain ⟨F11, n7, np7, l1, l2, l3, l4, u, u3, N11⟩ := TA7
            have hln7 := nls_step hln5
            simp only [List.length_cons] at hz3
            k_steps
            rename Fr _ _ _ _ => F12
            rename News _ _ _ _ => N12
            exact hNx3 _ (.mk r7.length (by have := congrArg List.length he; simp only [List.length_cons] at this; omega) ⟨_, _, _, _, _, _, rfl, hT3, hln7, by rw [Str.length_append]; omega, S7, ⟨tkTokCh F12, n7, np7, _, _, _, _, _, _, N12⟩, by rw [hs3]⟩)
        · rename (_ == Str.ofString "\\") = false => a2
          rename (Builtin.Str.occurrences _ _ _ _ _).isEmpty = _ => aw
          rw [show inkB c = true from aw, if_neg (by decide), a2, if_neg (by decide)] at hT3
          exact hNx3 _ (.mk r.length (by have := congrArg List.length he; simp only [List.length_cons] at this; omega) ⟨_, _, _, _, _, _, rfl, hT3, hln5, by rw [Str.length_append]; omega, S5, ⟨tkTokCh F10, n5, np5, _, _, _, _, _, _, N10⟩, by rw [hs3]⟩)
        · rename (Builtin.Str.occurrences _ _ _ _ _).isEmpty = _ => aw
          rw [show inkB c = false from aw, if_pos rfl] at hT3
          cases hT3
          exact hR3 _ _ (hR1 _ _ (getFin hR lift hlx F10 (by rw [hs3]) S5 hln5 ⟨_, _, _, _, _, _, (N10 _ (.tail _ (.tail _ (.tail _ (.head _))))).1⟩ (N10 _ (.tail _ (.tail _ (.head _)))).1 (N10 _ (.tail _ (.tail _ (.tail _ (.tail _ (.head _)))))).1 (N10 _ (.tail _ (.tail _ (.tail _ (.tail _ (.tail _ (.head _))))))).1))
    · rename (Builtin.Str.occurrences _ _ _ _ _).isEmpty = _ => aw
      rename (_ == Str.ofString "\\") = false => a2
      rename (_ == Str.ofString "\"") = false => a1
      rw [show inkB c = true from aw, if_neg (by decide), a1, if_neg (by decide), a2, if_neg (by decide)] at hT1
      rename Fr _ _ _ _ => F9
      rename News _ _ _ _ => N9
      refine pyIter_cit (N9 _ (.head _)).1 ?_
      refine forLoopA (InvX tokB w g L sg st lx dx pb it q t0 wd rest TT s) ?turn4 r.length ?init4 (fun _ => rfl)
      case init4 =>
        exact ⟨r, r', _, _, _, _, rfl, hT1, hln2, by rw [Str.length_append, show (Str.ofString "").length = 0 from rfl]; have := S1.len2; simp only [List.length_cons] at this; omega, S2, ⟨tkTokCh F9, n4, np4, _, _, _, _, _, _, N9⟩, by rw [hs1]⟩
      intro k s3 hI Nx3 R3 hNx3 hR3
      obtain ⟨its3, cs3, ln3, tok3, tt3, och3, hk3, hT3, hln3, hz3, S3, TA3, hs3⟩ := hI
      refine TA3.next G S3 rfl (Nat.le_of_ble_eq_true rfl) (Nat.le_of_ble_eq_true rfl) (fun he h' tk' TE => ?_) (fun c t r he h' tk' TA4 => ?_)
      · subst he
        have := S3.nil
        subst this
        cases hT3
      obtain ⟨c5, r5, tc5, rfl, e5, hc5, S5, hc51⟩ := (he ▸ S3).cons
      cases e5
      have hln5 := nls_step hln3
      obtain ⟨F5, n5, np5, l1, l2, l3, l4, u, u3, N5⟩ := TA4
      rw [tokB_cons] at hT3
      simp only [List.length_cons] at hz3
      k_steps
      all_goals (try rename Fr _ _ _ _ => F10)
      all_goals (try rename News _ _ _ _ => N10)
      · rename (_ == _) = true => a2
        rename (Builtin.Str.occurrences _ _ _ _ _).isEmpty = _ => aw
        rw [show inkB c = true from aw, if_neg (by decide), if_pos a2] at hT3
        have TA6 : TokAt w g L sg st lx dx pb it q t0 _ _ (tkM lx it tok3 tt3 _) _ := ⟨tkCh F10, n5, np5, l1, l2, l3, l4, u, u3, N10⟩
        cases r5 with
        | nil => cases hT3
        | cons d r6 =>
          obtain ⟨tc7, r7, e8, S7, hc71⟩ := S5.uncons
          subst e8
          refine Does.call (TA6.read G S5) fun v h' tk' hp => ?_
          obtain ⟨hst, _, p1⟩ := hp
          obtain ⟨rfl, TA7⟩ := p1 _ _ _ rfl
          obtain ⟨F11, n7, np7, l1, l2, l3, l4, u, u3, N11⟩ := TA7
          have hln7 := nls_step hln5
          simp only [List.length_cons] at hz3
          k_steps
          rename Fr _ _ _ _ => F12
          rename News _ _ _ _ => N12
          exact hNx3 _ (.mk r7.length (by have := congrArg List.length he; simp only [List.length_cons] at this; omega) ⟨_, _, _, _, _, _, rfl, hT3, hln7, by rw [Str.length_append]; omega, S7, ⟨tkTokCh F12, n7, np7, _, _, _, _, _, _, N12⟩, by rw [hs3]⟩)
      · rename (_ == Str.ofString "\\") = false => a2
        rename (Builtin.Str.occurrences _ _ _ _ _).isEmpty = _ => aw
        rw [show inkB c = true from aw, if_neg (by decide), a2, if_neg (by decide)] at hT3
        exact hNx3 _ (.mk r.length (by have := congrArg List.length he; simp only [List.length_cons] at this; omega) ⟨_, _, _, _, _, _, rfl, hT3, hln5, by rw [Str.length_append]; omega, S5, ⟨tkTokCh F10, n5, np5, _, _, _, _, _, _, N10⟩, by rw [hs3]⟩)
      · rename (Builtin.Str.occurrences _ _ _ _ _).isEmpty = _ => aw
        rw [show inkB c = false from aw, if_pos rfl] at hT3
        cases hT3
        exact hR3 _ _ (hR1 _ _ (getFin hR lift hlx F10 (by rw [hs3]) S5 hln5 ⟨_, _, _, _, _, _, (N10 _ (.tail _ (.tail _ (.tail _ (.head _))))).1⟩ (N10 _ (.tail _ (.tail _ (.head _)))).1 (N10 _ (.tail _ (.tail _ (.tail _ (.tail _ (.head _)))))).1 (N10 _ (.tail _ (.tail _ (.tail _ (.tail _ (.tail _ (.head _))))))).1))
    · rename (Builtin.Str.occurrences _ _ _ _ _).isEmpty = _ => aw
      rename News _ _ _ _ => N9
      rw [show inkB c = false from aw, if_pos rfl] at hT1
      exact hNx1 _ (.mk r.length (by have := congrArg List.length he; simp only [List.length_cons] at this; omega) ⟨_, _, _, _, _, _, rfl, hT1, hln2, S2, ⟨tkCh F9, n4, np4, _, _, _, _, _, _, N9⟩, by rw [hs1]⟩)
end Mine
end
section
open PySem PySem.W PyProof.Rows PySem.Calls
set_option maxRecDepth 100000
set_option maxHeartbeats 400000
namespace Mine
theorem fillK7Push2 : (fun (_ : OpenLaw) (_ : Params → Frag) => True) PySem.Challenge.rw_ik0002_02 hd2.heap_39 := by
  k_fill
  trivial
theorem rows5 : True := by
  k_with_none
  k_with "call builtin:list.pop" => ((k_here; k_dflt ((with_reducible show wpAny _ _ (call (Value.builtin _) [Value.ref _, Value.int 0 _]) _ _ _); refine' pop0 ?Fz9 ?Nz9 ?Uz9 ?zz9 ?_; (case Fz9 => k_asm); (case Nz9 => k_asm); (case Uz9 => k_upd); (case zz9 => assumption)); kl_rest))
  trivial
theorem pushed_does {w : World} {H : Heap} {s : Shared} {lx dx pb st : Addr} {x : Value} {pu : List Value} {np : Nat} {ln : Int}
   (B : Base (hd2.heap_39 w.params) H s.heap) (hC : CodeHd H 83 81)
   (hlx : s.heap.get? lx = some (instObj 52 dx)) (hdx : LexDict w s.heap dx ln st pb) (hpb : s.heap.get? pb = some (listOf (x :: pu).toArray np)) (hz : (x :: pu).length ≤ 100000)
   (fr : ∀ x ∈ [lx, dx, pb], H.get? x = none) (nd : [lx, dx, pb].Nodup) :
   Does PySem.Challenge.pw_ik0002_02 w 6 (.ref 42) [.ref lx] s (fun v h' => Stays [pb] s.heap h' ∧ v = x ∧ ∃ np, h'.get? pb = some (listOf pu.toArray np)) := by
  obtain ⟨k1, k2, k3, k4, t, t3, hdx⟩ := hdx
  simp only [List.nodup_cons, List.mem_cons, List.not_mem_nil, or_false, not_or, List.nodup_nil, and_true, not_false_eq_true] at nd
  obtain ⟨⟨f1, f2⟩, g1⟩ := nd
  have f1' := neN f1
  have f2' := neN f2
  have g1' := neN g1
  have mu : ∀ q ∈ [(lx, instObj 52 dx), (dx, dictOf (lexDict w k1 k2 k3 k4 t t3 ln st pb) 4), (pb, listOf (x :: pu).toArray np)], s.heap.get? q.1 = some q.2 ∧ H.get? q.1 = none := by
    refine all_cons ?_ (all_cons ?_ (all_cons ?_ all_nil))
    · exact ⟨hlx, fr _ (by simp)⟩
    · exact ⟨hdx, fr _ (by simp)⟩
    · exact ⟨hpb, fr _ (by simp)⟩
  intro R hR
  refine' enter (muts := [(lx, instObj 52 dx), (dx, dictOf (lexDict w k1 k2 k3 k4 t t3 ln st pb) 4), (pb, listOf (x :: pu).toArray np)]) B mu ?ho ?hcd ?hroom ?hbind ?hloc ?hcell ?hco ?hgen ?hk ?h
  case ho => k_is
  case hcd => k_is
  case hroom => decide
  case hbind => exact BindsTo.of_eq rfl
  case hloc => exact locs rfl
  case hcell => decide
  case hco => rfl
  case hgen => rfl
  case hk => rfl
  intro g L h₁ p loose mean mg mb X T F N hlt lift hL up
  have hCg := hC.keeps up
  unfold lexDict at N
  k_steps
  refine kgr_truthy N (.tail _ (.tail _ (.head _))) rfl rfl (Nat.lt_of_le_of_lt hz (by decide)) ?_
  simp only [List.isEmpty_cons, Bool.not_false]
  k_steps
  rename Fr _ _ _ _ => F9
  rename News _ _ _ _ => N9
  refine fin (S := [pb, lx, dx]) hR (fun b o e hb => lift b o e fun hm => hb ?_) F9 rfl (fun hst => ⟨(hst.drop hlx (N9 _ (.head _)).1 ?_ : Stays [pb, dx] _ _).drop hdx (N9 _ (.tail _ (.head _))).1 ?_, rfl, _, (N9 _ (.tail _ (.tail _ (.head _)))).1⟩)
  · simp only [List.map_cons, List.map_nil, List.mem_cons, List.not_mem_nil, or_false] at hm ⊢
    rcases hm with h | h | h <;> simp [h]
  · intro b hb hne
    simp only [List.mem_cons, List.not_mem_nil, or_false] at hb ⊢
    rcases hb with h | h | h
    · exact .inl h
    · exact absurd h hne
    · exact .inr h
  · intro b hb hne
    simp only [List.mem_cons, List.not_mem_nil, or_false] at hb ⊢
    rcases hb with h | h
    · exact h
    · exact absurd h hne

theorem push_does {w : World} {H : Heap} {s : Shared} {lx dx pb st : Addr} {x : Str} {tx : Tok} {pu : List Value} {np : Nat} {ln : Int}
   (B : Base (hd2.heap_39 w.params) H s.heap) (hC : CodeHd H 83 81)
   (hlx : s.heap.get? lx = some (instObj 52 dx)) (hdx : LexDict w s.heap dx ln st pb) (hpb : s.heap.get? pb = some (listOf pu.toArray np)) (hz : pu.length ≤ 100000)
   (fr : ∀ x ∈ [lx, dx, pb], H.get? x = none) (nd : [lx, dx, pb].Nodup) :
   Does PySem.Challenge.pw_ik0002_02 w 6 (.ref 49) [.ref lx, Value.str x tx] s (fun v h' => Stays [pb] s.heap h' ∧ ∃ np, h'.get? pb = some (listOf (pu ++ [Value.str x tx]).toArray np)) := by
  obtain ⟨k1, k2, k3, k4, t, t3, hdx⟩ := hdx
  simp only [List.nodup_cons, List.mem_cons, List.not_mem_nil, or_false, not_or, List.nodup_nil, and_true, not_false_eq_true] at nd
  obtain ⟨⟨f1, f2⟩, g1⟩ := nd
  have f1' := neN f1
  have f2' := neN f2
  have g1' := neN g1
  have mu : ∀ q ∈ [(lx, instObj 52 dx), (dx, dictOf (lexDict w k1 k2 k3 k4 t t3 ln st pb) 4), (pb, listOf pu.toArray np)], s.heap.get? q.1 = some q.2 ∧ H.get? q.1 = none := by
    refine all_cons ?_ (all_cons ?_ (all_cons ?_ all_nil))
    · exact ⟨hlx, fr _ (by simp)⟩
    · exact ⟨hdx, fr _ (by simp)⟩
    · exact ⟨hpb, fr _ (by simp)⟩
  intro R hR
  refine' enter (muts := [(lx, instObj 52 dx), (dx, dictOf (lexDict w k1 k2 k3 k4 t t3 ln st pb) 4), (pb, listOf pu.toArray np)]) B mu ?ho ?hcd ?hroom ?hbind ?hloc ?hcell ?hco ?hgen ?hk ?h
  case ho => k_is
  case hcd => k_is
  case hroom => decide
  case hbind => exact BindsTo.of_eq rfl
  case hloc => exact locs rfl
  case hcell => decide
  case hco => rfl
  case hgen => rfl
  case hk => rfl
  intro g L h₁ p loose mean mg mb X T F N hlt lift hL up
  have hCg := hC.keeps up
  unfold lexDict at N
  k_steps
  rename Fr _ _ _ _ => F9
  rename News _ _ _ _ => N9
  refine fin (S := [pb, lx, dx]) hR (fun b o e hb => lift b o e fun hm => hb ?_) F9 rfl (fun hst => ⟨(hst.drop hlx (N9 _ (.head _)).1 ?_ : Stays [pb, dx] _ _).drop hdx (N9 _ (.tail _ (.head _))).1 ?_, _, by have := (N9 _ (.tail _ (.tail _ (.head _)))).1; rwa [show (pu.toArray.push (Value.str x tx)) = (pu ++ [Value.str x tx]).toArray from by simp] at this⟩)
  · simp only [List.map_cons, List.map_nil, List.mem_cons, List.not_mem_nil, or_false] at hm ⊢
    rcases hm with h | h | h <;> simp [h]
  · intro b hb hne
    simp only [List.mem_cons, List.not_mem_nil, or_false] at hb ⊢
    rcases hb with h | h | h
    · exact .inl h
    · exact absurd h hne
    · exact .inr h
  · intro b hb hne
    simp only [List.mem_cons, List.not_mem_nil, or_false] at hb ⊢
    rcases hb with h | h
    · exact h
    · exact absurd h hne
end Mine
end
section
open PySem PySem.W PyProof.Rows PySem.Calls
set_option maxRecDepth 100000
set_option maxHeartbeats 400000
namespace Mine
theorem fillK8All2 : (fun (_ : OpenLaw) (_ : Params → Frag) => True) PySem.Challenge.rw_ik0002_02 hd2.heap_39 := by
  k_fill
  trivial
structure LexFix (w : World) (H h : Heap) (cl sg st sd rd lx dx pb : Addr) : Prop where
  S : StrmFix (hd2.heap_39 w.params) 84 w h cl sg st sd rd
  fr : ∀ x ∈ [cl, sg, st, sd, rd, lx, dx, pb], H.get? x = none
  nd : [cl, sg, st, sd, rd, lx, dx, pb].Nodup
noncomputable def Lex (w : World) (h : Heap) (sg st lx dx pb : Addr) (its : List Value) (pu : List Value) (ln : Int) : Prop :=
  (∃ n, h.get? sg = some (listOf its.toArray n)) ∧ h.get? lx = some (instObj 52 dx) ∧ LexDict w h dx ln st pb ∧ ∃ np, h.get? pb = some (listOf pu.toArray np)
inductive Told : List Str → List Str → List Str → List Str → Prop
  | stop {cs rest : List Str} : tokO cs = some (Str.ofString "", rest) → Told [] cs [] rest
  | pop {p : Str} {ps cs ws rest : List Str} : p ≠ Str.ofString "" → Told ps cs ws rest → Told (p :: ps) cs (p :: ws) rest
  | tok {wd : Str} {cs r1 ws rest : List Str} : tokO cs = some (wd, r1) → wd ≠ Str.ofString "" → Told [] r1 ws rest → Told [] cs (wd :: ws) rest

theorem LexFix.keeps {w : World} {H h h' : Heap} {cl sg st sd rd lx dx pb : Addr} (x : LexFix w H h cl sg st sd rd lx dx pb) (k : ∀ b ∈ [cl, st, sd, rd], ∀ o, h.get? b = some o → h'.get? b = some o)
    (kc : ∀ c o, h.get? c = some o → (∃ vs, o.data = .fields vs) → h'.get? c = some o) : LexFix w H h' cl sg st sd rd lx dx pb := ⟨x.S.keeps k kc, x.fr, x.nd⟩

noncomputable def TellPost (w : World) (sg st lx dx pb : Addr) (T : Int) (wd : Str) (pu' cs' : List Str) (h : Heap) (v : Value) (h' : Heap) : Prop :=
  Stays [sg, dx, pb] h h' ∧ (∃ t, v = .str wd t) ∧ ∃ its pv ln, Signs its cs' ∧ DatAll [] pv (pu'.map Dat.str) ∧ ln + nls cs' = T ∧ Lex w h' sg st lx dx pb its pv ln

theorem tell_read {w : World} {H : Heap} {s : Shared} {cl sg st sd rd lx dx pb : Addr} {its : List Value} {cs : List Str} {ln : Int} {wd : Str} {rest : List Str}
   (B : Base (hd2.heap_39 w.params) H s.heap) (hC : CodeHd H 83 81) (X : LexFix w H s.heap cl sg st sd rd lx dx pb) (Lx : Lex w s.heap sg st lx dx pb its [] ln) (SS : Signs its cs) (hT : tokO cs = some (wd, rest)) :
   Does PySem.Challenge.pw_ik0002_02 w 6 (.ref 42) [.ref lx] s (TellPost w sg st lx dx pb (ln + nls cs) wd [] rest s.heap) := by
  obtain ⟨⟨n, e1⟩, e2, e3, np, e4⟩ := Lx
  have nd := X.nd
  simp only [List.nodup_cons, List.mem_cons, List.not_mem_nil, or_false, not_or, List.nodup_nil, and_true, not_false_eq_true] at nd
  obtain ⟨⟨a1, a2, a3, a4, a5, a6, a7⟩, ⟨b1, b2, b3, b4, b5, b6⟩, ⟨c1, c2, c3, c4, c5⟩, ⟨d1, d2, d3, d4⟩, ⟨x1, x2, x3⟩, ⟨f1, f2⟩, g1⟩ := nd
  refine (get_does B hC X.S e1 e2 e3 e4 X.fr X.nd SS hT).mono fun v h' ⟨hst, hv, its', n', np', ln', S', hl, y1, y2, y3⟩ => ⟨hst, hv, its', [], ln', S', .nil, hl, ⟨_, y1⟩, hst _ _ e2 (by simp only [List.mem_cons, List.not_mem_nil, or_false, not_or]; exact ⟨Ne.symm b4, f1, f2⟩), y2, _, y3⟩
theorem tell_pop {w : World} {H : Heap} {s : Shared} {cl sg st sd rd lx dx pb : Addr} {its pv : List Value} {cs : List Str} {ln : Int} {p : Str} {ps : List Str}
   (B : Base (hd2.heap_39 w.params) H s.heap) (hC : CodeHd H 83 81) (X : LexFix w H s.heap cl sg st sd rd lx dx pb) (Lx : Lex w s.heap sg st lx dx pb its pv ln) (SS : Signs its cs) (D : DatAll [] pv ((p :: ps).map Dat.str)) (hz : pv.length ≤ 100000) :
   Does PySem.Challenge.pw_ik0002_02 w 6 (.ref 42) [.ref lx] s (TellPost w sg st lx dx pb (ln + nls cs) p ps cs s.heap) := by
  obtain ⟨⟨n, e1⟩, e2, e3, np, e4⟩ := Lx
  have nd := X.nd
  simp only [List.nodup_cons, List.mem_cons, List.not_mem_nil, or_false, not_or, List.nodup_nil, and_true, not_false_eq_true] at nd
  obtain ⟨⟨a1, a2, a3, a4, a5, a6, a7⟩, ⟨b1, b2, b3, b4, b5, b6⟩, ⟨c1, c2, c3, c4, c5⟩, ⟨d1, d2, d3, d4⟩, ⟨x1, x2, x3⟩, ⟨f1, f2⟩, g1⟩ := nd
  cases D with
  | cons hd hr =>
    cases hd
    refine (pushed_does B hC e2 e3 e4 hz (fun x hx => X.fr x (by simp only [List.mem_cons, List.not_mem_nil, or_false] at hx ⊢; rcases hx with h | h | h <;> simp [h])) (by simp [f1, f2, g1])).mono
      fun v h' ⟨hst, hv, np', y3⟩ => ⟨hst.weaken (by simp), ⟨_, hv⟩, its, _, ln, SS, hr, rfl, ⟨_, hst _ _ e1 (by simp [b6])⟩, hst _ _ e2 (by simp [f2]), ?_, _, y3⟩
    obtain ⟨k1, k2, k3, k4, t, t3, e3⟩ := e3
    exact ⟨k1, k2, k3, k4, t, t3, hst _ _ e3 (by simp [g1])⟩

noncomputable def allM (lx a : Addr) (ow : Option Value) : Str → Option Value := fun y => if y = Str.ofString "word" then ow else if y = Str.ofString "words" then some (.ref a) else if y = Str.ofString "lexer" then some (.ref lx) else none
theorem tell {w : World} {H : Heap} {s : Shared} {cl sg st sd rd lx dx pb : Addr} {its pv : List Value} {cs ps : List Str} {ln : Int} {ws rest : List Str}
   (B : Base (hd2.heap_39 w.params) H s.heap) (hC : CodeHd H 83 81) (X : LexFix w H s.heap cl sg st sd rd lx dx pb) (Lx : Lex w s.heap sg st lx dx pb its pv ln) (SS : Signs its cs) (D : DatAll [] pv (ps.map Dat.str)) (hz : pv.length ≤ 100000) (hT : Told ps cs ws rest) :
   ∃ wd ps' cs', Does PySem.Challenge.pw_ik0002_02 w 6 (.ref 42) [.ref lx] s (TellPost w sg st lx dx pb (ln + nls cs) wd ps' cs' s.heap) ∧ ps'.length ≤ 100000 ∧
     ((wd = Str.ofString "" ∧ ws = [] ∧ ps' = [] ∧ cs' = rest) ∨ (wd ≠ Str.ofString "" ∧ ∃ ws', ws = wd :: ws' ∧ Told ps' cs' ws' rest)) := by
  have hl := D.length
  rw [List.length_map] at hl
  cases hT with
  | stop h =>
    cases D
    exact ⟨_, _, _, tell_read B hC X Lx SS h, Nat.zero_le _, .inl ⟨rfl, rfl, rfl, rfl⟩⟩
  | pop h r => exact ⟨_, _, _, tell_pop B hC X Lx SS D hz, by simp only [List.length_cons] at hl; omega, .inr ⟨h, _, rfl, r⟩⟩
  | tok h h2 r =>
    cases D
    exact ⟨_, _, _, tell_read B hC X Lx SS h, Nat.zero_le _, .inr ⟨h2, _, rfl, r⟩⟩
noncomputable def AllAt (w : World) (g : Heap) (L sg st lx dx pb a : Addr) (its pv vs : List Value) (ln : Int) (ow : Option Value) (h : Heap) : Prop :=
  Fr g L h (allM lx a ow) ∧ ∃ n np nv k1 k2 k3 k4 t t3, News g L h [(a, listOf vs.toArray nv), (lx, instObj 52 dx), (dx, dictOf (lexDict w k1 k2 k3 k4 t t3 ln st pb) 4), (pb, listOf pv.toArray np), (sg, listOf its.toArray n)]
noncomputable def AllInv (w : World) (g : Heap) (L sg st lx dx pb a : Addr) (ws rest : List Str) (TT : Int) (s : Shared) (k : Nat) (s' : Shared) : Prop :=
  ∃ its pv cs ps ln ws' don vs ow, k = ws'.length ∧ Told ps cs ws' rest ∧ don ++ ws' = ws ∧ ln + nls cs = TT ∧ Signs its cs ∧ DatAll [] pv (ps.map Dat.str) ∧ pv.length ≤ 100000 ∧ DatAll [] vs (don.map Dat.str) ∧
    AllAt w g L sg st lx dx pb a its pv vs ln ow s'.heap ∧ s' = { s with heap := s'.heap, toks := s'.toks }
theorem allWord {g h : Heap} {L lx a : Addr} {ow : Option Value} {v : Value} (F : Fr g L h (fun y => if y = Str.ofString "word" then some v else allM lx a ow y)) : Fr g L h (allM lx a (some v)) := by
  refine frCongr F fun y => ?_
  unfold allM
  by_cases h1 : y = Str.ofString "word"
  · rw [if_pos h1, if_pos h1]
  · rw [if_neg h1, if_neg h1, if_neg h1]
theorem allInit {g h : Heap} {L lx a : Addr} {m0 : Str → Option Value} (F : Fr g L h (fun y => if y = Str.ofString "words" then some (.ref a) else m0 y)) (e : ∀ y, m0 y = [(Str.ofString "lexer", Value.ref lx)].lookup y) : Fr g L h (allM lx a none) := by
  refine frCongr F fun y => ?_
  unfold allM
  by_cases h1 : y = Str.ofString "word"
  · subst h1; rw [if_neg (by decide), if_pos rfl, e]; rfl
  rw [if_neg h1]
  by_cases h2 : y = Str.ofString "words"
  · rw [if_pos h2, if_pos h2]
  rw [if_neg h2, if_neg h2, e, List.lookup_cons]
  by_cases h4 : y = Str.ofString "lexer"
  · subst h4; rw [if_pos rfl]; rfl
  · rw [if_neg h4, show (y == Str.ofString "lexer") = false from beq_eq_false_iff_ne.mpr h4]; rfl
theorem datAll_snoc {news : List (Addr × Obj)} {v : Value} {d : Dat} (h : DatIn news v d) : ∀ {vs : List Value} {ds : List Dat}, DatAll news vs ds → DatAll news (vs ++ [v]) (ds ++ [d])
  | [], _, D => by cases D; exact .cons h .nil
  | _ :: _, _, D => by
    cases D with
    | cons a r => exact .cons a (datAll_snoc h r)
noncomputable def AllPost (w : World) (sg st lx dx pb : Addr) (T : Int) (ws rest : List Str) (h : Heap) (v : Value) (h' : Heap) : Prop :=
  Stays [sg, dx, pb] h h' ∧ ∃ a vs n its ln, v = .ref a ∧ h.get? a = none ∧ h'.get? a = some (listOf vs.toArray n) ∧ DatAll [] vs (ws.map Dat.str) ∧ Signs its rest ∧ ln + nls rest = T ∧ Lex w h' sg st lx dx pb its [] ln
theorem rows6 : True := by
  k_with_none
  k_with "exec While" => ((k_here; with_reducible refine wpAny_While ?_))
  trivial
set_option maxHeartbeats 2000000 in
theorem all_does {w : World} {H : Heap} {s : Shared} {cl sg st sd rd lx dx pb : Addr} {its pv : List Value} {cs ps : List Str} {ln : Int} {ws rest : List Str}
   (B : Base (hd2.heap_39 w.params) H s.heap) (hC : CodeHd H 83 81) (XL : LexFix w H s.heap cl sg st sd rd lx dx pb) (Lx : Lex w s.heap sg st lx dx pb its pv ln) (SS : Signs its cs) (D : DatAll [] pv (ps.map Dat.str)) (hz : pv.length ≤ 100000) (hw : ws.length ≤ 100000) (hT : Told ps cs ws rest) :
   Does PySem.Challenge.pw_ik0002_02 w 5 (.ref 112) [.ref lx] s (AllPost w sg st lx dx pb (ln + nls cs) ws rest s.heap) := by
  generalize hTT : ln + nls cs = TT
  obtain ⟨⟨n, e1⟩, e2, ⟨k1, k2, k3, k4, t, t3, e3⟩, np, e4⟩ := Lx
  have nd := XL.nd
  simp only [List.nodup_cons, List.mem_cons, List.not_mem_nil, or_false, not_or, List.nodup_nil, and_true, not_false_eq_true] at nd
  obtain ⟨⟨a1, a2, a3, a4, a5, a6, a7⟩, ⟨b1, b2, b3, b4, b5, b6⟩, ⟨c1, c2, c3, c4, c5⟩, ⟨d1, d2, d3, d4⟩, ⟨x1, x2, x3⟩, ⟨f1, f2⟩, g1⟩ := nd
  have b4' := neN b4
  have b5' := neN b5
  have b6' := neN b6
  have f1' := neN f1
  have f2' := neN f2
  have g1' := neN g1
  have fr := XL.fr
  have mu : ∀ q ∈ [(lx, instObj 52 dx), (dx, dictOf (lexDict w k1 k2 k3 k4 t t3 ln st pb) 4), (pb, listOf pv.toArray np), (sg, listOf its.toArray n)], s.heap.get? q.1 = some q.2 ∧ H.get? q.1 = none := by
    refine all_cons ?_ (all_cons ?_ (all_cons ?_ (all_cons ?_ all_nil)))
    · exact ⟨e2, fr _ (by simp)⟩
    · exact ⟨e3, fr _ (by simp)⟩
    · exact ⟨e4, fr _ (by simp)⟩
    · exact ⟨e1, fr _ (by simp)⟩
  intro R hR
  refine' enter (muts := [(lx, instObj 52 dx), (dx, dictOf (lexDict w k1 k2 k3 k4 t t3 ln st pb) 4), (pb, listOf pv.toArray np), (sg, listOf its.toArray n)]) B mu ?ho ?hcd ?hroom ?hbind ?hloc ?hcell ?hco ?hgen ?hk ?h
  case ho => k_is
  case hcd => k_is
  case hroom => decide
  case hbind => exact BindsTo.of_eq rfl
  case hloc => exact locs rfl
  case hcell => decide
  case hco => rfl
  case hgen => rfl
  case hk => rfl
  intro g L h₁ p loose mean mg mb X T F N hlt lift hL up
  have hCg := hC.keeps up
  have XLg : LexFix w H g cl sg st sd rd lx dx pb := XL.keeps (fun b hb o e => lift b o e (by
    simp only [List.mem_cons, List.not_mem_nil, or_false] at hb
    simp only [List.map_cons, List.map_nil, List.mem_cons, List.not_mem_nil, or_false, not_or]
    rcases hb with rfl | rfl | rfl | rfl
    · exact ⟨a5, a6, a7, a1⟩
    · exact ⟨c3, c4, c5, Ne.symm b1⟩
    · exact ⟨d2, d3, d4, Ne.symm b2⟩
    · exact ⟨x1, x2, x3, Ne.symm b3⟩)) (lift_kc lift (fun q hq => (mu q hq).1) (by
    intro q hq vs
    simp only [List.mem_cons, List.not_mem_nil, or_false] at hq
    rcases hq with rfl | rfl | rfl | rfl <;> (intro h; cases h)))
  unfold lexDict at N
  k_steps
  rename Fr _ _ _ _ => F1
  rename News _ _ _ _ => N1
  rename_i a h3 l3 h4
  refine whileLoopA (AllInv w g L sg st lx dx pb a ws rest TT s) ?turn ws.length ?init
  case init =>
    exact ⟨its, pv, cs, ps, ln, ws, [], [], none, rfl, hT, rfl, hTT, SS, D, hz, .nil, ⟨allInit F1 (fun y => rfl), n, np, _, _, _, _, _, _, _, N1⟩, rfl⟩
  intro k s1 hI Nx R' hNx hR'
  obtain ⟨its1, pv1, cs1, ps1, ln1, ws1, don, vs, ow, hk, hT1, hws, hln, S1, D1, hz1, Dv, ⟨F4, n4, np4, nv4, o1, o2, o3, o4, u, u3, N4⟩, hs1⟩ := hI
  k_steps
  rename Fr _ _ _ _ => F5
  rename News _ _ _ _ => N5
  have hvl : vs.length ≤ 100000 := by
    have := Dv.length
    rw [List.length_map] at this
    have := congrArg List.length hws
    rw [List.length_append] at this
    omega
  have m1 := N5 _ (.tail _ (.head _))
  have m2 := N5 _ (.tail _ (.tail _ (.head _)))
  have m3 := N5 _ (.tail _ (.tail _ (.tail _ (.head _))))
  have m4 := N5 _ (.tail _ (.tail _ (.tail _ (.tail _ (.head _)))))
  have m0 := N5 _ (.head _)
  have na : a ≠ lx ∧ a ≠ sg ∧ a ≠ dx ∧ a ≠ pb := ⟨Ne.symm (neLt l3.1), Ne.symm (neLt l3.2.2.2), Ne.symm (neLt l3.2.1), Ne.symm (neLt l3.2.2.1)⟩
  obtain ⟨wd, ps', cs', DD, hz2, hcase⟩ := tell (s := _) ⟨B.X, B.T, fun b o e => F5.keep _ _ (up b o e)⟩ hC (XLg.keeps (fun b _ o e => F5.keep b o e) fun b o e _ => F5.keep b o e) ⟨⟨_, m4.1⟩, m1.1, ⟨_, _, _, _, _, _, m2.1⟩, _, m3.1⟩ S1 D1 hz1 hT1
  refine DD.call fun v h' tk' hp => ?_
  obtain ⟨hst, ⟨tv, rfl⟩, its6, pv6, ln6, S6, D6, hl6, ⟨n6, y1⟩, y2, ⟨j1, j2, j3, j4, j5, j6, y3⟩, np6, y4⟩ := hp
  obtain ⟨F7, N7⟩ := after (news' := [(a, listOf vs.toArray nv4), (lx, instObj 52 dx), (dx, dictOf (lexDict w j1 j2 j3 j4 j5 j6 ln6 st pb) 4), (pb, listOf pv6.toArray np6), (sg, listOf its6.toArray n6)]) F5 N5 hst (fun b hb => by
    revert b
    refine all_cons ?_ (all_cons ?_ (all_cons ?_ all_nil))
    · exact m4.2
    · exact m2.2
    · exact m3.2) (fun q hq => by
    simp only [List.mem_cons, List.not_mem_nil, or_false] at hq ⊢
    rcases hq with rfl | rfl | rfl | rfl | rfl
    · exact .inl ⟨.inl rfl, fun h => h.elim na.2.1 fun h => h.elim na.2.2.1 na.2.2.2⟩
    · exact .inr ⟨y2, m1.2⟩
    · exact .inr ⟨y3, m2.2⟩
    · exact .inr ⟨y4, m3.2⟩
    · exact .inr ⟨y1, m4.2⟩)
  (try clear F5); (try clear N5); (try clear F4); (try clear N4); (try clear F1); (try clear N1)
  unfold lexDict at N7
  k_steps
  all_goals (try rename Fr _ _ _ _ => F9)
  all_goals (try rename News _ _ _ _ => N9)
  · rename (_ == _) = true => q1
    have q2 : wd = Str.ofString "" := eq_of_beq q1
    rcases hcase with ⟨_, rfl, rfl, rfl⟩ | ⟨h, _⟩
    rotate_left
    · exact absurd q2 h
    rw [List.append_nil] at hws
    subst hws
    refine hR' _ _ ?_
    refine fin (S := [sg, dx, pb, lx]) hR (fun b o e hb => lift b o e fun hm => hb ?_) F9 (by rw [hs1]) (fun hst => ⟨hst.drop e2 (N9 _ (.tail _ (.head _))).1 ?_, a, vs, _, _, _, rfl, ?_, (N9 _ (.head _)).1, Dv, S6, by rw [hl6, hln], ?_⟩)
    · simp only [List.map_cons, List.map_nil, List.mem_cons, List.not_mem_nil, or_false] at hm ⊢
      rcases hm with h | h | h | h <;> simp [h]
    · intro b hb hne
      simp only [List.mem_cons, List.not_mem_nil, or_false] at hb ⊢
      rcases hb with h | h | h | h
      · simp [h]
      · simp [h]
      · simp [h]
      · exact absurd h hne
    · cases q : s.heap.get? a with
      | none => rfl
      | some o =>
        have := lift a o q (by simp only [List.map_cons, List.map_nil, List.mem_cons, List.not_mem_nil, or_false, not_or]; exact ⟨na.1, na.2.2.1, na.2.2.2, na.2.1⟩)
        rw [m0.2.2] at this
        cases this
    · cases D6
      exact ⟨⟨_, (N9 _ (.tail _ (.tail _ (.tail _ (.tail _ (.head _)))))).1⟩, (N9 _ (.tail _ (.head _))).1, ⟨_, _, _, _, _, _, (N9 _ (.tail _ (.tail _ (.head _)))).1⟩, _, (N9 _ (.tail _ (.tail _ (.tail _ (.head _))))).1⟩
  · rename (_ == _) = false => q1
    rcases hcase with ⟨h, _⟩ | ⟨_, ws', rfl, hT6⟩
    · rw [h] at q1
      exact absurd q1 (by decide)
    have e9 : vs.toArray.push (Value.str wd tv) = (vs ++ [Value.str wd tv]).toArray := by simp
    rw [e9] at N9
    refine hNx _ (.mk ws'.length (by rw [hk]; simp only [List.length_cons]; omega) ⟨its6, pv6, cs', ps', ln6, ws', don ++ [wd], vs ++ [Value.str wd tv], _, rfl, hT6, by rw [List.append_assoc]; exact hws, by rw [hl6, hln], S6, D6, ?_, ?_, ⟨allWord F9, n6, np6, _, _, _, _, _, _, _, N9⟩, by rw [hs1]⟩)
    · have := D6.length
      rw [List.length_map] at this
      omega
    · rw [List.map_append]
      exact datAll_snoc (.str _ _) Dv
end Mine
end
section
open PySem PySem.W PyProof.Rows PySem.Calls
namespace Mine
noncomputable def sg1 (l : List Nat) : List Str := l.map fun c => ⟨#[c]⟩
noncomputable def plainB (c : Str) : Bool := inkB c && !(c == Str.ofString "\"") && !(c == Str.ofString "\\")
noncomputable def sumS (acc : Str) : List Str → Str
  | [] => acc
  | c :: r => sumS (acc ++ c) r
theorem tokB_run {b : Str} {rest : List Str} (hb : inkB b = false) : ∀ {l : List Str} {acc : Str}, (∀ c ∈ l, plainB c = true) → tokB acc (l ++ b :: rest) = some (sumS acc l, rest) := by
  intro l
  induction l with
  | nil => intro acc _; rw [List.nil_append, tokB_cons, if_pos hb]; rfl
  | cons c l ih =>
    intro acc h
    have hc := h c (.head _)
    unfold plainB at hc
    simp only [Bool.and_eq_true, Bool.not_eq_true'] at hc
    obtain ⟨⟨h1, h2⟩, h3⟩ := hc
    rw [List.cons_append, tokB_cons, if_neg (by rw [h1]; exact Bool.noConfusion), if_neg (by rw [h3]; exact Bool.noConfusion)]
    exact ih fun c hc => h c (.tail _ hc)
theorem tokQ_run {rest : List Str} : ∀ {l : List Str} {acc : Str}, (∀ c ∈ l, plainB c = true) → tokQ acc (l ++ Str.ofString "\"" :: rest) = some (sumS acc l, rest) := by
  intro l
  induction l with
  | nil => intro acc _; rw [List.nil_append, tokQ_cons, if_pos (by decide +kernel)]; rfl
  | cons c l ih =>
    intro acc h
    have hc := h c (.head _)
    unfold plainB at hc
    simp only [Bool.and_eq_true, Bool.not_eq_true'] at hc
    obtain ⟨⟨h1, h2⟩, h3⟩ := hc
    rw [List.cons_append, tokQ_cons, if_neg (by rw [h2]; exact Bool.noConfusion), if_neg (by rw [h3]; exact Bool.noConfusion)]
    exact ih fun c hc => h c (.tail _ hc)
theorem tokO_blank {b : Str} {r : List Str} (hb : inkB b = false) : tokO (b :: r) = tokO r := by
  conv => lhs; rw [tokO.eq_def]
  simp only []
  rw [if_pos hb]
theorem inkQ : inkB (Str.ofString "\"") = true := by decide +kernel
theorem inkS : inkB (Str.ofString "\\") = true := by decide +kernel
theorem tokO_bare {b c : Str} {l rest : List Str} (hb : inkB b = false) (h : ∀ x ∈ c :: l, plainB x = true) : tokO ((c :: l) ++ b :: rest) = some (sumS (Str.ofString "") (c :: l), rest) := by
  have hc := h c (.head _)
  unfold plainB at hc
  simp only [Bool.and_eq_true, Bool.not_eq_true'] at hc
  obtain ⟨⟨h1, h2⟩, h3⟩ := hc
  rw [List.cons_append, tokO.eq_def]
  simp only []
  rw [if_neg (by rw [h1]; exact Bool.noConfusion), if_neg (by rw [h2]; exact Bool.noConfusion), if_neg (by rw [h3]; exact Bool.noConfusion)]
  exact tokB_run hb fun x hx => h x (.tail _ hx)
theorem tokO_marks {l rest : List Str} (h : ∀ x ∈ l, plainB x = true) : tokO (Str.ofString "\"" :: (l ++ Str.ofString "\"" :: rest)) = some (sumS (Str.ofString "") l, rest) := by
  rw [tokO.eq_def]
  simp only []
  rw [if_neg (by rw [inkQ]; exact Bool.noConfusion), if_pos (by decide +kernel)]
  exact tokQ_run h
theorem tokO_slash {b c : Str} {l rest : List Str} (hb : inkB b = false) (h : ∀ x ∈ l, plainB x = true) : tokO (Str.ofString "\\" :: ((c :: l) ++ b :: rest)) = some (sumS (Str.ofString "") (c :: l), rest) := by
  rw [tokO.eq_def]
  simp only []
  rw [if_neg (by rw [inkS]; exact Bool.noConfusion), if_neg (by decide +kernel), if_pos (by decide +kernel)]
  exact tokB_run hb h
noncomputable def writ (w : List Nat) : Nat → List Nat
  | 0 => w
  | 1 => 34 :: (w ++ [34])
  | _ => 92 :: w
noncomputable def left (b : Nat) : Nat → List Nat
  | 1 => [b]
  | _ => []
theorem q34 : (⟨#[34]⟩ : Str) = Str.ofString "\"" := by decide +kernel
theorem q92 : (⟨#[92]⟩ : Str) = Str.ofString "\\" := by decide +kernel
theorem sg1_app (a b : List Nat) : sg1 (a ++ b) = sg1 a ++ sg1 b := List.map_append
theorem tokO_writ {c b : Nat} {l : List Nat} {rest : List Str} (hb : inkB ⟨#[b]⟩ = false) (h : ∀ x ∈ sg1 (c :: l), plainB x = true) (way : Nat) :
    tokO (sg1 (writ (c :: l) way) ++ ⟨#[b]⟩ :: rest) = some (sumS (Str.ofString "") (sg1 (c :: l)), sg1 (left b way) ++ rest) := by
  match way with
  | 0 => exact tokO_bare hb h
  | 1 =>
    have e : sg1 (writ (c :: l) 1) ++ (⟨#[b]⟩ : Str) :: rest = Str.ofString "\"" :: (sg1 (c :: l) ++ Str.ofString "\"" :: ((⟨#[b]⟩ : Str) :: rest)) := by
      rw [← q34]
      show (⟨#[34]⟩ : Str) :: (sg1 ((c :: l) ++ [34]) ++ _) = _
      rw [sg1_app, List.append_assoc]
      rfl
    rw [e]
    exact tokO_marks h
  | n + 2 =>
    have e : sg1 (writ (c :: l) (n + 2)) ++ (⟨#[b]⟩ : Str) :: rest = Str.ofString "\\" :: (((⟨#[c]⟩ : Str) :: sg1 l) ++ (⟨#[b]⟩ : Str) :: rest) := by
      rw [← q92]; rfl
    rw [e]
    exact tokO_slash hb fun x hx => h x (.tail _ hx)
theorem Told.congr {cs cs' ws rest : List Str} (e : tokO cs = tokO cs') (T : Told [] cs ws rest) : Told [] cs' ws rest := by
  cases T with
  | stop h => exact .stop (e ▸ h)
  | tok h1 h2 h3 => exact .tok (e ▸ h1) h2 h3
theorem Told.blank {b : Str} {cs ws rest : List Str} (hb : inkB b = false) (T : Told [] cs ws rest) : Told [] (b :: cs) ws rest := T.congr (tokO_blank hb).symm
theorem Told.left {b : Nat} {cs ws rest : List Str} (hb : inkB ⟨#[b]⟩ = false) (way : Nat) (T : Told [] cs ws rest) : Told [] (sg1 (left b way) ++ cs) ws rest := by
  unfold Mine.left
  split
  · exact T.blank hb
  · exact T
theorem Told.pops {cs ws rest : List Str} (T : Told [] cs ws rest) : ∀ {ps : List Str}, (∀ p ∈ ps, p ≠ Str.ofString "") → Told ps cs (ps ++ ws) rest := by
  intro ps
  induction ps with
  | nil => intro _; exact T
  | cons p ps ih => intro h; exact .pop (h p (.head _)) (ih fun q hq => h q (.tail _ hq))
noncomputable def fig (d : Nat) : List Nat := [48 + d]
noncomputable def deed : Nat → List Nat
  | 0 => [97, 100, 100]
  | 1 => [115, 117, 98]
  | _ => [109, 117, 108]
noncomputable def deedS : Nat → Str
  | 0 => Str.ofString "add"
  | 1 => Str.ofString "sub"
  | _ => Str.ofString "mul"
noncomputable def blk (d o way : Nat) : List Nat := writ (fig d) way ++ [32, 9] ++ (writ (deed o) way ++ [13, 10])
theorem fig_plain : ∀ d < 10, (∀ x ∈ sg1 (fig d), plainB x = true) ∧ sumS (Str.ofString "") (sg1 (fig d)) = ⟨(fig d).toArray⟩ := by decide +kernel
theorem deed_plain : ∀ o < 3, (∀ x ∈ sg1 (deed o), plainB x = true) ∧ sumS (Str.ofString "") (sg1 (deed o)) = deedS o ∧ deedS o ≠ Str.ofString "" := by decide +kernel
theorem Told.blk {d o way : Nat} {cs ws rest : List Str} (hd : d < 10) (ho : o < 3) (T : Told [] cs ws rest) : Told [] (sg1 (blk d o way) ++ cs) ((⟨(fig d).toArray⟩ : Str) :: deedS o :: ws) rest := by
  obtain ⟨f1, f2⟩ := fig_plain d hd
  obtain ⟨g1, g2, g3⟩ := deed_plain o ho
  have b32 : inkB ⟨#[32]⟩ = false := by decide +kernel
  have b9 : inkB ⟨#[9]⟩ = false := by decide +kernel
  have b13 : inkB ⟨#[13]⟩ = false := by decide +kernel
  have b10 : inkB ⟨#[10]⟩ = false := by decide +kernel
  have e : sg1 (Mine.blk d o way) ++ cs = sg1 (writ (fig d) way) ++ (⟨#[32]⟩ : Str) :: ((⟨#[9]⟩ : Str) :: (sg1 (writ (deed o) way) ++ (⟨#[13]⟩ : Str) :: ((⟨#[10]⟩ : Str) :: cs))) := by
    unfold Mine.blk
    simp only [sg1_app, List.append_assoc]
    rfl
  rw [e]
  refine .tok ((tokO_writ b32 f1 way).trans (congrArg (fun z => some (z, _)) f2)) (fun h => by cases congrArg (fun s : Str => s.cps.size) h) ?_
  refine Told.left b32 way (Told.blank b9 ?_)
  have hdd : ∃ c l, deed o = c :: l := by unfold deed; split <;> exact ⟨_, _, rfl⟩
  obtain ⟨c, l, hcl⟩ := hdd
  rw [hcl] at g1 g2 ⊢
  refine .tok ((tokO_writ b13 g1 way).trans (congrArg (fun z => some (z, _)) g2)) g3 ?_
  exact Told.left b13 way (Told.blank b10 T)
noncomputable abbrev Turn := Nat × Nat × Nat
noncomputable def okT (l : List Turn) : Prop := ∀ x ∈ l, x.1 < 10 ∧ x.2.1 < 3
noncomputable def figS (d : Nat) : Str := ⟨(fig d).toArray⟩
noncomputable def rowT (l : List Turn) : List Str := l.flatMap fun x => [figS x.1, deedS x.2.1]
noncomputable def textT (l : List Turn) : List Nat := l.flatMap fun x => blk x.1 x.2.1 x.2.2
noncomputable def row0 (l : List Turn) : List Str := Str.ofString "3" :: rowT l
noncomputable def text0 (l : List Turn) : List Nat := [32, 51, 10] ++ textT l
theorem told_turns : ∀ {l : List Turn}, okT l → Told [] (sg1 (textT l)) (rowT l) [] := by
  intro l
  induction l with
  | nil => intro _; exact .stop rfl
  | cons x l ih =>
    intro h
    have hx := h x (.head _)
    have e : sg1 (textT (x :: l)) = sg1 (blk x.1 x.2.1 x.2.2) ++ sg1 (textT l) := by
      rw [← sg1_app]; rfl
    rw [e]
    exact Told.blk hx.1 hx.2 (ih fun y hy => h y (.tail _ hy))
theorem told_text {l : List Turn} (h : okT l) : Told [] (sg1 (text0 l)) (row0 l) [] := by
  have b32 : inkB ⟨#[32]⟩ = false := by decide +kernel
  have b10 : inkB ⟨#[10]⟩ = false := by decide +kernel
  have f3 : ∀ x ∈ sg1 [51], plainB x = true := by decide +kernel
  have e3 : sumS (Str.ofString "") (sg1 [51]) = Str.ofString "3" := by decide +kernel
  show Told [] ((⟨#[32]⟩ : Str) :: (sg1 [51] ++ (⟨#[10]⟩ : Str) :: sg1 (textT l))) _ _
  refine Told.blank b32 (.tok ((tokO_bare b10 f3).trans (congrArg (fun z => some (z, _)) e3)) (by decide +kernel) (told_turns h))
theorem nls_app : ∀ {a b : List Str}, nls (a ++ b) = nls a + nls b := by
  intro a b
  induction a with
  | nil => simp [nls]
  | cons c a ih => rw [List.cons_append, nls, nls, ih]; omega
theorem nls_fig : ∀ d < 10, nls (sg1 (fig d)) = 0 := by decide +kernel
theorem nls_deed : ∀ o < 3, nls (sg1 (deed o)) = 0 := by decide +kernel
theorem nls_writ {l : List Nat} (h : nls (sg1 l) = 0) (way : Nat) : nls (sg1 (writ l way)) = 0 := by
  have h34 : nls (sg1 [34]) = 0 := by decide +kernel
  have h92 : nls (sg1 [92]) = 0 := by decide +kernel
  match way with
  | 0 => exact h
  | 1 =>
    show nls (sg1 ([34] ++ (l ++ [34]))) = 0
    rw [sg1_app, sg1_app, nls_app, nls_app, h, h34]; rfl
  | n + 2 =>
    show nls (sg1 ([92] ++ l)) = 0
    rw [sg1_app, nls_app, h, h92]; rfl
theorem nls_blk {d o way : Nat} (hd : d < 10) (ho : o < 3) : nls (sg1 (blk d o way)) = 1 := by
  have h1 : nls (sg1 [32, 9]) = 0 := by decide +kernel
  have h2 : nls (sg1 [13, 10]) = 1 := by decide +kernel
  unfold blk
  rw [sg1_app, sg1_app, sg1_app, nls_app, nls_app, nls_app, nls_writ (nls_fig d hd), nls_writ (nls_deed o ho), h1, h2]; rfl
theorem nls_turns : ∀ {l : List Turn}, okT l → nls (sg1 (textT l)) = l.length := by
  intro l
  induction l with
  | nil => intro _; rfl
  | cons x l ih =>
    intro h
    have hx := h x (.head _)
    have e : sg1 (textT (x :: l)) = sg1 (blk x.1 x.2.1 x.2.2) ++ sg1 (textT l) := by
      rw [← sg1_app]; rfl
    rw [e, nls_app, nls_blk hx.1 hx.2, ih fun y hy => h y (.tail _ hy)]
    have : (x :: l).length = l.length + 1 := rfl
    rw [this]; omega
theorem nls_text {l : List Turn} (h : okT l) : nls (sg1 (text0 l)) = 1 + l.length := by
  unfold text0
  rw [sg1_app, nls_app, nls_turns h]
  have : nls (sg1 [32, 51, 10]) = 1 := by decide +kernel
  rw [this]
theorem rowT_len (l : List Turn) : (rowT l).length = 2 * l.length := by
  induction l with
  | nil => rfl
  | cons x l ih =>
    show ([figS x.1, deedS x.2.1] ++ rowT l).length = _
    rw [List.length_append, ih]; simp only [List.length_cons, List.length_nil]; omega
noncomputable def totT (t : Int) (l : List Turn) : Int := l.foldl (fun t x => opf (deedS x.2.1) t x.1) t
noncomputable def datB (l : List Turn) : List Dat := l.reverse.flatMap fun x => [Dat.str (deedS x.2.1), Dat.int x.1]
theorem deedS_is (o : Nat) : isDeed (deedS o) := by
  unfold deedS isDeed
  split
  · exact .inl rfl
  · exact .inr (.inl rfl)
  · exact .inr (.inr rfl)
theorem datB_cons (x : Turn) (l : List Turn) : datB (x :: l) = datB l ++ [Dat.str (deedS x.2.1), Dat.int x.1] := by
  unfold datB
  rw [List.reverse_cons, List.flatMap_append]
  rfl
theorem folds_all (hm : ∀ (a b : Int), 0 ≤ b → b < 10 → IntMulOk a b) : ∀ {l : List Turn} {t : Int}, okT l → Folds (datB l ++ [Dat.int t]) [Dat.int (totT t l)] := by
  intro l
  induction l with
  | nil => intro t _; exact .small (by show 1 ≤ 2; decide)
  | cons x l ih =>
    intro t h
    have hx := h x (.head _)
    rw [datB_cons, List.append_assoc]
    exact .turn (pre := datB l) (d := deedS x.2.1) (a := x.1) (b := t) (deedS_is _) (hm _ _ (by omega) (by omega)) (ih fun y hy => h y (.tail _ hy))
theorem bits_fig : ∀ n < 10, Builtin.Int.intBits ((n : Nat) : Int) ≤ 64 := by decide +kernel
theorem mul_fig (a b : Int) (h0 : 0 ≤ b) (h1 : b < 10) : IntMulOk a b := by
  obtain ⟨n, rfl⟩ := Int.eq_ofNat_of_zero_le h0
  exact IntMulOk.of_right (bits_fig n (by omega))
theorem back_total {l : List Turn} {t : Int} (h : okT l) : Folds (datB l ++ [Dat.int t]) [Dat.int (totT t l)] := folds_all mul_fig h
theorem row0_rev (l : List Turn) : (row0 l).reverse = (l.reverse.flatMap fun x => [deedS x.2.1, figS x.1]) ++ [Str.ofString "3"] := by
  unfold row0 rowT
  rw [List.reverse_cons]
  congr 1
  induction l with
  | nil => rfl
  | cons x l ih =>
    rw [List.flatMap_cons, List.reverse_append, ih, List.reverse_cons (a := x), List.flatMap_append]
    rfl
theorem figS_in : ∀ d < 10, (Builtin.Str.occurrences (Str.ofString "0123456789") (figS d) 0 (Str.ofString "0123456789").length 1).isEmpty = false ∧ PySem.intText? (figS d) = some ((d : Nat) : Int) ∧ (figS d).length ≤ 640 := by decide +kernel
theorem fig3_in : (Builtin.Str.occurrences (Str.ofString "0123456789") (Str.ofString "3") 0 (Str.ofString "0123456789").length 1).isEmpty = false ∧ PySem.intText? (Str.ofString "3") = some 3 ∧ (Str.ofString "3").length ≤ 640 := by decide +kernel
noncomputable def stkT (l : List Turn) (k : Nat) : List Int := if k = 0 then [] else if k % 2 = 1 then [totT 3 (l.take (k / 2))] else [totT 3 (l.take (k / 2 - 1)), ((l[k / 2 - 1]?).getD (0, 0, 0)).1]
noncomputable def bckT (l : List Turn) (k : Nat) : List Dat := if k ≤ 2 * l.length then (l.reverse.flatMap fun x => [Dat.str (deedS x.2.1), Dat.int x.1]).take k else [Dat.int (totT 3 l)]
end Mine
end
section
open PySem PySem.W PyProof.Rows PySem.Calls
namespace Mine
theorem flat2_get {α β : Type} (f g : α → β) : ∀ (l : List α) (i : Nat), (l.flatMap fun x => [f x, g x])[2 * i]? = l[i]?.map f ∧ (l.flatMap fun x => [f x, g x])[2 * i + 1]? = l[i]?.map g := by
  intro l
  induction l with
  | nil => intro i; exact ⟨rfl, rfl⟩
  | cons x l ih =>
    intro i
    rw [List.flatMap_cons]
    cases i with
    | zero => exact ⟨rfl, rfl⟩
    | succ i =>
      have e1 : 2 * (i + 1) = 2 * i + 1 + 1 := by omega
      rw [e1]
      exact ih i
theorem totT_snoc {l : List Turn} {i : Nat} {x : Turn} (h : l[i]? = some x) (t : Int) : totT t (l.take (i + 1)) = opf (deedS x.2.1) (totT t (l.take i)) x.1 := by
  unfold totT
  rw [List.take_add_one, h, List.foldl_append]
  rfl
theorem row_at {l : List Turn} {k : Nat} {w : Str} (h : (row0 l)[k]? = some w) :
    (k = 0 ∧ w = Str.ofString "3") ∨ (∃ i x, k = 2 * i + 1 ∧ l[i]? = some x ∧ w = figS x.1) ∨ (∃ i x, k = 2 * i + 2 ∧ l[i]? = some x ∧ w = deedS x.2.1) := by
  cases k with
  | zero => exact .inl ⟨rfl, (Option.some.inj h).symm⟩
  | succ k =>
    have h' : (rowT l)[k]? = some w := h
    obtain ⟨a, b⟩ := flat2_get (fun x : Turn => figS x.1) (fun x => deedS x.2.1) l (k / 2)
    rcases Nat.mod_two_eq_zero_or_one k with q | q
    · have e : 2 * (k / 2) = k := by omega
      rw [e] at a
      have a' := a.symm.trans h'
      rw [Option.map_eq_some_iff] at a'
      obtain ⟨x, hx, rfl⟩ := a'
      exact .inr (.inl ⟨k / 2, x, by omega, hx, rfl⟩)
    · have e : 2 * (k / 2) + 1 = k := by omega
      rw [e] at b
      have b' := b.symm.trans h'
      rw [Option.map_eq_some_iff] at b'
      obtain ⟨x, hx, rfl⟩ := b'
      exact .inr (.inr ⟨k / 2, x, by omega, hx, rfl⟩)
theorem stk_odd (l : List Turn) (i : Nat) : stkT l (2 * i + 1) = [totT 3 (l.take i)] := by
  unfold stkT
  rw [if_neg (by omega), if_pos (by omega)]
  have : (2 * i + 1) / 2 = i := by omega
  rw [this]
theorem stk_even {l : List Turn} {i : Nat} {x : Turn} (h : l[i]? = some x) : stkT l (2 * i + 2) = [totT 3 (l.take i), (x.1 : Int)] := by
  unfold stkT
  rw [if_neg (by omega), if_neg (by omega)]
  have : (2 * i + 2) / 2 - 1 = i := by omega
  rw [this, h]
  rfl
theorem stk_next {l : List Turn} {i : Nat} {x : Turn} (h : l[i]? = some x) : stkT l (2 * i + 2 + 1) = [opf (deedS x.2.1) (totT 3 (l.take i)) x.1] := by
  have e : 2 * i + 2 + 1 = 2 * (i + 1) + 1 := by omega
  rw [e, stk_odd, totT_snoc h]
theorem stk_end (l : List Turn) : stkT l (row0 l).length = [totT 3 l] := by
  have e : (row0 l).length = 2 * l.length + 1 := by
    show (rowT l).length + 1 = _
    rw [rowT_len]
  rw [e, stk_odd, List.take_length]
noncomputable abbrev flatB (r : List Turn) : List Dat := r.flatMap fun x => [Dat.str (deedS x.2.1), Dat.int x.1]
theorem flatB_len (r : List Turn) : (flatB r).length = 2 * r.length := by
  induction r with
  | nil => rfl
  | cons x l ih =>
    show ([Dat.str (deedS x.2.1), Dat.int x.1] ++ flatB l).length = _
    rw [List.length_append, ih]; simp only [List.length_cons, List.length_nil]; omega
theorem rev_at {l : List Turn} {k : Nat} {w : Str} (h : (row0 l).reverse[k]? = some w) :
    (k = 2 * l.length ∧ w = Str.ofString "3") ∨ (k < 2 * l.length ∧ ((∃ x, x ∈ l ∧ w = deedS x.2.1 ∧ bckT l (k + 1) = bckT l k ++ [Dat.str (deedS x.2.1)]) ∨
      (∃ x pre y, x ∈ l ∧ w = figS x.1 ∧ bckT l k = pre ++ [Dat.str (deedS y)] ∧ bckT l (k + 1) = bckT l k ++ [Dat.int x.1]))) := by
  rw [row0_rev] at h
  have hl : (l.reverse.flatMap fun x => [deedS x.2.1, figS x.1]).length = 2 * l.length := by
    have := rowT_len l
    have e := congrArg List.length (row0_rev l)
    rw [List.length_append, List.length_reverse] at e
    have e2 : (row0 l).length = (rowT l).length + 1 := rfl
    simp only [List.length_cons, List.length_nil] at e
    omega
  by_cases q : k < 2 * l.length
  · rw [List.getElem?_append_left (by omega)] at h
    refine .inr ⟨q, ?_⟩
    obtain ⟨a, b⟩ := flat2_get (fun x : Turn => deedS x.2.1) (fun x => figS x.1) l.reverse (k / 2)
    obtain ⟨c, d⟩ := flat2_get (fun x : Turn => Dat.str (deedS x.2.1)) (fun x => Dat.int x.1) l.reverse (k / 2)
    have e0 : bckT l k = (flatB l.reverse).take k := if_pos (by omega)
    have e1 : bckT l (k + 1) = (flatB l.reverse).take (k + 1) := if_pos (by omega)
    rcases Nat.mod_two_eq_zero_or_one k with p | p
    · have e : 2 * (k / 2) = k := by omega
      rw [e] at a c
      have a' := a.symm.trans h
      rw [Option.map_eq_some_iff] at a'
      obtain ⟨x, hx, rfl⟩ := a'
      refine .inl ⟨x, List.mem_reverse.mp (List.mem_of_getElem? hx), rfl, ?_⟩
      rw [e0, e1, List.take_add_one]
      rw [hx] at c
      rw [show (flatB l.reverse)[k]? = some (Dat.str (deedS x.2.1)) from c]
      rfl
    · have e : 2 * (k / 2) + 1 = k := by omega
      rw [e] at b d
      have b' := b.symm.trans h
      rw [Option.map_eq_some_iff] at b'
      obtain ⟨x, hx, rfl⟩ := b'
      rw [hx] at c d
      refine .inr ⟨x, (flatB l.reverse).take (2 * (k / 2)), x.2.1, List.mem_reverse.mp (List.mem_of_getElem? hx), rfl, ?_, ?_⟩
      · rw [e0]
        have t := List.take_add_one (l := flatB l.reverse) (i := 2 * (k / 2))
        rw [e, show (flatB l.reverse)[2 * (k / 2)]? = some (Dat.str (deedS x.2.1)) from c] at t
        exact t
      · rw [e0, e1, List.take_add_one]
        rw [show (flatB l.reverse)[k]? = some (Dat.int x.1) from d]
        rfl
  · rw [List.getElem?_append_right (by omega), hl] at h
    have h0 : k - 2 * l.length = 0 := by
      have := (List.getElem?_eq_some_iff.mp h).1
      simp only [List.length_cons, List.length_nil] at this
      omega
    rw [h0] at h
    exact .inl ⟨by omega, (Option.some.inj h).symm⟩
theorem bck_last (l : List Turn) : bckT l (2 * l.length) = datB l := by
  unfold bckT
  rw [if_pos (Nat.le_refl _)]
  have : (l.reverse.flatMap fun x => [Dat.str (deedS x.2.1), Dat.int x.1]).length = 2 * l.length := by
    have := flatB_len l.reverse
    rwa [List.length_reverse] at this
  rw [← this, List.take_length]
  rfl
theorem bck_end (l : List Turn) : bckT l (2 * l.length + 1) = [Dat.int (totT 3 l)] := if_neg (by omega)
theorem folds_at {l : List Turn} (h : okT l) {k : Nat} {w : Str} (hw : (row0 l).reverse[k]? = some w) :
    (∃ o < 3, w = deedS o ∧ Folds (bckT l k ++ [Dat.str w]) (bckT l (k + 1))) ∨ (∃ d : Nat, (w = figS d ∧ d < 10 ∨ w = Str.ofString "3" ∧ d = 3) ∧ Folds (bckT l k ++ [Dat.int d]) (bckT l (k + 1))) := by
  rcases rev_at hw with ⟨rfl, rfl⟩ | ⟨q, ⟨x, hx, rfl, e⟩ | ⟨x, pre, y, hx, rfl, e0, e⟩⟩
  · refine .inr ⟨3, .inr ⟨rfl, rfl⟩, ?_⟩
    rw [bck_last, bck_end]
    exact back_total h
  · refine .inl ⟨x.2.1, (h x hx).2, rfl, ?_⟩
    rw [e]
    exact .deed1 (deedS_is _)
  · refine .inr ⟨x.1, .inl ⟨rfl, (h x hx).1⟩, ?_⟩
    rw [e, e0, List.append_assoc]
    exact .deed2 (deedS_is _)
theorem row0_ne {l : List Turn} (h : okT l) : ∀ w ∈ row0 l, w ≠ Str.ofString "" := by
  intro w hw
  obtain ⟨k, hk⟩ := List.getElem?_of_mem hw
  have nf : ∀ d < 10, figS d ≠ Str.ofString "" := by decide +kernel
  rcases row_at hk with ⟨_, rfl⟩ | ⟨i, x, _, hx, rfl⟩ | ⟨i, x, _, hx, rfl⟩
  · decide +kernel
  · exact nf _ (h x (List.mem_of_getElem? hx)).1
  · exact (deed_plain _ (h x (List.mem_of_getElem? hx)).2).2.2
theorem told_back {l : List Turn} (h : okT l) : Told (row0 l).reverse [] (row0 l).reverse [] := by
  have := Told.pops (cs := []) (ws := []) (rest := []) (.stop rfl) (ps := (row0 l).reverse) (fun p hp => row0_ne h p (List.mem_reverse.mp hp))
  rwa [List.append_nil] at this
end Mine
end
section
open PySem PySem.W PyProof.Rows PySem.Calls
set_option maxRecDepth 100000
set_option maxHeartbeats 400000
namespace Mine
theorem fillK11Red2 : (fun (_ : OpenLaw) (_ : Params → Frag) => True) PySem.Challenge.rw_ik0002_02 hd2.heap_39 := by
  k_fill
  trivial
noncomputable abbrev itObj (l : Addr) (i : Nat) : Obj := { cls := .type "list_iterator", data := .fields #[.ref l, .int i 0] }
theorem args_iter1 (a : Value) : argsOk "iter" ⟨[a], []⟩ := by unfold argsOk; kernel_rfl
section
variable {prog : Program} {w : World} {A : Around} {E : Value → Shared → Prop} {s : Shared} {g : Heap} {L : Addr} {m : Str → Option Value} {news : List (Addr × Obj)}
theorem iter_lst {Q : Value → Shared → Prop} {l : Addr} {items : Array Value} (F : Fr g L s.heap m) (N : News g L s.heap news) (hl : s.heap.IsList l items)
    (h : ∀ it h', Fr g L h' m → News g L h' ((it, itObj l 0) :: news) → (∀ p ∈ news, p.1 < it) → Q (.ref it) { s with heap := h' }) :
    wpAny (model prog w) A (call (.builtin "iter") [.ref l]) Q E s := by
  refine call_function_entry (by decide +kernel) (by decide +kernel) kdk_entry_iter (args_iter1 _) ?_
  unfold Builtin.«iter»
  refine wpAny_bind (m := someArgs "iter" 1 2 _) (wpAny_of_eq (a := [Value.ref l]) (by first | rfl | kernel_rfl!) ?_)
  dsimp only
  refine wpAny_bind (wpAny_pyIter_list hl ?_)
  exact wpAny_pure ⟨_, rfl, h _ _ (F.push _) (News.push F N _ rfl) fun p hp => Heap.lt_size (N p hp).1⟩
theorem isIter {h : Heap} {it l : Addr} {i : Nat} (e : h.get? it = some (itObj l i)) : h.IsListIter it l i := ⟨_, e, rfl, rfl⟩
end
theorem rows7 : True := by
  k_with_none
  k_with "call builtin:iter" => ((k_here; (with_reducible show wpAny _ _ (call (Value.builtin "iter") [Value.ref _]) _ _ _); k_dflt (refine' iter_lst ?Fz9 ?Nz9 ?lz9 ?_; (case Fz9 => k_asm); (case Nz9 => k_asm); (case lz9 => exact News.isList (by k_asm) (by k_mem))); intro _ _ _ _ l1z9; (try k_lt l1z9); (try k_sweep)))
  k_with "exec For Name Name cons nil" => ((k_here; with_reducible refine wpAny_For ?_ (fun _ => rfl)))
  trivial
noncomputable def redM (f sq si it : Addr) (v : Value) (oel : Option Value) : Str → Option Value := fun y =>
  if y = Str.ofString "element" then oel else if y = Str.ofString "value" then some v else if y = Str.ofString "it" then some (.ref it) else [(Str.ofString "initial", Value.ref si), (Str.ofString "sequence", Value.ref sq), (Str.ofString "function", Value.ref f)].lookup y
theorem redInit {g h : Heap} {L f sq si it : Addr} {v : Value} {m0 : Str → Option Value} (F : Fr g L h (fun y => if y = Str.ofString "value" then some v else if y = Str.ofString "it" then some (.ref it) else m0 y)) (e : ∀ y, m0 y = [(Str.ofString "initial", Value.ref si), (Str.ofString "sequence", Value.ref sq), (Str.ofString "function", Value.ref f)].lookup y) : Fr g L h (redM f sq si it v none) := by
  refine frCongr F fun y => ?_
  unfold redM
  by_cases h1 : y = Str.ofString "element"
  · subst h1; rw [if_neg (by decide), if_neg (by decide), if_pos rfl, e]; rfl
  simp only [if_neg h1, e]
theorem redTurn {g h : Heap} {L f sq si it : Addr} {v v' el : Value} {oel : Option Value} (F : Fr g L h (fun y => if y = Str.ofString "value" then some v' else if y = Str.ofString "element" then some el else redM f sq si it v oel y)) : Fr g L h (redM f sq si it v' (some el)) := by
  refine frCongr F fun y => ?_
  unfold redM
  by_cases h1 : y = Str.ofString "element"
  · subst h1; rw [if_neg (by decide), if_pos rfl, if_pos rfl]
  simp only [if_neg h1]
  by_cases h2 : y = Str.ofString "value"
  · simp only [if_pos h2]
  simp only [if_neg h2]
noncomputable def RedInv (QQ : Nat → List Value → Prop) (H g : Heap) (L f sq si it : Addr) (els v0 : List Value) (n n0 : Nat) (s : Shared) (c : Nat) (s' : Shared) : Prop :=
  ∃ k a vals na oel oi, oi.cls = .type "list_iterator" ∧ oi.data = .fields #[.ref sq, .int k 0] ∧ c = els.length - k ∧ k ≤ els.length ∧ (Fr g L s'.heap (redM f sq si it (.ref a) oel) ∧ News g L s'.heap [(a, listOf vals.toArray na), (it, oi), (si, listOf v0.toArray n0), (sq, listOf els.toArray n)]) ∧ H.get? a = none ∧ QQ k vals ∧ s' = { s with heap := s'.heap, toks := s'.toks }
theorem rows8 : True := by
  k_with "FnAt" => ((k_dflt (exact fnAt_keep (by assumption) (by k_asm))))
  k_with "callWith ref" => ((k_here; kn_here; k_dflt ((refine' callWith_F ?k1z9 ?_; (case k1z9 => exact fnAt_keep (by assumption) (by k_asm)); k_whole))))
  trivial
set_option maxHeartbeats 2000000 in
theorem reduce_does {w : World} {H : Heap} {s : Shared} {f sq si : Addr} {els v0 : List Value} {n n0 : Nat} (QQ : Nat → List Value → Prop)
   (B : Base (hd2.heap_39 w.params) H s.heap) (hC : CodeHd H 83 81) (hsq : s.heap.get? sq = some (listOf els.toArray n)) (hfq : H.get? sq = none) (hsi : s.heap.get? si = some (listOf v0.toArray n0)) (hfi : H.get? si = none) (hz : els.length ≤ 100000)
   (hfn : FnAt f s.heap) (hne : si ≠ 64) (hneq : si ≠ sq) (hQ0 : QQ 0 v0)
   (step : ∀ k a vals na el s', els[k]? = some el → QQ k vals → s'.heap.get? a = some (listOf vals.toArray na) → Base (hd2.heap_39 w.params) H s'.heap → H.get? a = none →
     Does PySem.Challenge.pw_ik0002_02 w 5 (.ref f) [.ref a, el] s' (fun v' h' => ∃ vals', QQ (k + 1) vals' ∧ StackPost vals' s'.heap v' h')) :
   Does PySem.Challenge.pw_ik0002_02 w 4 (.ref 72) [.ref f, .ref sq, .ref si] s (fun v h' => Stays [] s.heap h' ∧ ∃ a vals na, v = .ref a ∧ h'.get? a = some (listOf vals.toArray na) ∧ QQ els.length vals ∧ H.get? a = none) := by
  have mu : ∀ q ∈ [(si, listOf v0.toArray n0), (sq, listOf els.toArray n)], s.heap.get? q.1 = some q.2 ∧ H.get? q.1 = none := by
    refine all_cons ?_ (all_cons ?_ all_nil)
    · exact ⟨hsi, hfi⟩
    · exact ⟨hsq, hfq⟩
  intro R hR
  refine' enter (muts := [(si, listOf v0.toArray n0), (sq, listOf els.toArray n)]) B mu ?ho ?hcd ?hroom ?hbind ?hloc ?hcell ?hco ?hgen ?hk ?h
  case ho => k_is
  case hcd => k_is
  case hroom => decide
  case hbind => exact binds_K (B.X.keeps B.up) rfl (by k_is) rfl rfl rfl
  case hloc => exact locs rfl
  case hcell => decide
  case hco => rfl
  case hgen => rfl
  case hk => rfl
  intro g L h₁ p loose mean mg mb X T F N hlt lift hL up
  have hCg := hC.keeps up
  have hne' := neN hne
  have hneq' := neN hneq
  have hfg : FnAt f g := by
    obtain ⟨a, b, c, d, e⟩ := hfn
    refine ⟨a, b, c, d, lift _ _ e fun hm => ?_⟩
    simp only [List.map_cons, List.map_nil, List.mem_cons, List.not_mem_nil, or_false] at hm
    rcases hm with rfl | rfl
    · rw [hsi] at e; cases e
    · rw [hsq] at e; cases e
  k_steps
  rename News _ _ _ _ => N9
  rename Fr _ _ _ _ => F9
  rename _ ∧ _ => l9
  rename_i it _ _ _
  refine wpAny_pyIter_listiter (isIter (N9 _ (.head _)).1) ?_
  refine forLoopA (RedInv QQ H g L f sq si it els v0 n n0 s) ?turn els.length ?init (fun _ => rfl)
  case init =>
    refine ⟨0, si, v0, n0, none, itObj sq 0, rfl, rfl, by omega, Nat.zero_le _, ⟨redInit F9 (fun y => rfl), fun q hq => ?_⟩, hfi, hQ0, rfl⟩
    revert q
    refine all_cons ?_ (all_cons ?_ (all_cons ?_ (all_cons ?_ all_nil)))
    · exact N9 _ (.tail _ (.head _))
    · exact N9 _ (.head _)
    · exact N9 _ (.tail _ (.head _))
    · exact N9 _ (.tail _ (.tail _ (.head _)))
  clear N9 F9
  rintro c s1 ⟨k, a, vals, na, oel, oi, ic, id, hc, hk, ⟨F5, N5⟩, hfa, hQ, hs1⟩ Nx R' hNx hR'
  have m0 := N5 _ (.head _)
  have m1 := N5 _ (.tail _ (.head _))
  have m2 := N5 _ (.tail _ (.tail _ (.head _)))
  have m3 := N5 _ (.tail _ (.tail _ (.tail _ (.head _))))
  have hit : ∀ b v n, s1.heap.get? b = some (listOf v n) → b ≠ it := fun b v n e q => by
    rw [q, m1.1] at e
    have e := congrArg Obj.cls (Option.some.inj e)
    rw [ic] at e
    injection e with e
    exact absurd e (by decide)
  have htr : s1.heap.IsListIter it sq k := ⟨_, m1.1, ic, id⟩
  by_cases hlt' : k < els.length
  · have hx : els[k]? = some els[k] := List.getElem?_eq_getElem hlt'
    refine wpAny_pyNext_list_item (x := els[k]) htr (News.isList N5 (.tail _ (.tail _ (.tail _ (.head _))))) (by rw [List.getElem?_toArray]; exact hx) (fun h' hi hsb => ?_)
    obtain ⟨oi2, e2, ic2, id2⟩ := hi
    obtain ⟨F6, N6⟩ := after (S := [it]) (news' := [(a, listOf vals.toArray na), (it, oi2), (si, listOf v0.toArray n0), (sq, listOf els.toArray n)]) F5 N5 (fun b o e hb => hsb.extBut b o (by simpa using hb) e) (fun b hb => by rw [List.mem_singleton.mp hb]; exact m1.2) (by
      refine all_cons ?_ (all_cons ?_ (all_cons ?_ (all_cons ?_ all_nil)))
      · exact .inl ⟨.head _, by rw [List.mem_singleton]; exact hit _ _ _ m0.1⟩
      · exact .inr ⟨e2, m1.2⟩
      · exact .inl ⟨.tail _ (.tail _ (.head _)), by rw [List.mem_singleton]; exact hit _ _ _ m2.1⟩
      · exact .inl ⟨.tail _ (.tail _ (.tail _ (.head _))), by rw [List.mem_singleton]; exact hit _ _ _ m3.1⟩)
    clear htr m1
    (try clear F5); (try clear N5)
    k_steps
    rename News _ _ _ _ => N7
    rename Fr _ _ _ _ => F7
    have e7 := N7 _ (.head _)
    refine (step k a vals na _ _ hx hQ e7.1 ⟨B.X, B.T, fun b o e => F7.keep _ _ (up b o e)⟩ hfa).call fun v' h' tk' hp => ?_
    obtain ⟨vals', hQ', hst, a', na', rfl, hnew, ha'⟩ := hp
    obtain ⟨F8, N8⟩ := after (S := []) (news' := [(a', listOf vals'.toArray na'), (it, oi2), (si, listOf v0.toArray n0), (sq, listOf els.toArray n)]) F7 N7 hst (fun b hb => by cases hb) (by
      refine all_cons ?_ (all_cons ?_ (all_cons ?_ (all_cons ?_ all_nil)))
      · refine .inr ⟨ha', ?_, ?_⟩
        · intro e
          obtain ⟨o, _, _, ho, _⟩ := F7.ns
          rw [show a' = L from e] at hnew
          rw [hnew] at ho
          cases ho
        · cases q : g.get? a' with
          | none => rfl
          | some o => have := F7.keep _ _ q; rw [hnew] at this; cases this
      · exact .inl ⟨.tail _ (.head _), by simp⟩
      · exact .inl ⟨.tail _ (.tail _ (.head _)), by simp⟩
      · exact .inl ⟨.tail _ (.tail _ (.tail _ (.head _))), by simp⟩)
    have hfa' : H.get? a' = none := by
      cases q : H.get? a' with
      | none => rfl
      | some o => have := F7.keep _ _ (up _ _ q); rw [hnew] at this; cases this
    (try clear F6); (try clear N6); (try clear F7); (try clear N7)
    k_steps
    rename News _ _ _ _ => N9
    rename Fr _ _ _ _ => F9
    exact hNx _ (.mk (els.length - (k + 1)) (by omega) ⟨k + 1, a', vals', na', _, _, ic2, id2, rfl, hlt', ⟨redTurn F9, N9⟩, hfa', hQ', by rw [hs1]⟩)
  · have hx : els[k]? = none := List.getElem?_eq_none (by omega)
    refine wpAny_pyNext_list_end rfl htr (News.isList N5 (.tail _ (.tail _ (.tail _ (.head _))))) (by rw [List.getElem?_toArray]; exact hx) (fun h' hsb => ?_)
    obtain ⟨F6, N6⟩ := after (S := [it]) (news' := [(a, listOf vals.toArray na), (si, listOf v0.toArray n0), (sq, listOf els.toArray n)]) F5 N5 (fun b o e hb => hsb b o (by simpa using hb) e) (fun b hb => by rw [List.mem_singleton.mp hb]; exact m1.2) (by
      refine all_cons ?_ (all_cons ?_ (all_cons ?_ all_nil))
      · exact .inl ⟨.head _, by rw [List.mem_singleton]; exact hit _ _ _ m0.1⟩
      · exact .inl ⟨.tail _ (.tail _ (.head _)), by rw [List.mem_singleton]; exact hit _ _ _ m2.1⟩
      · exact .inl ⟨.tail _ (.tail _ (.tail _ (.head _))), by rw [List.mem_singleton]; exact hit _ _ _ m3.1⟩)
    clear F5 N5
    k_steps
    refine hR' _ _ ?_
    show wpAny _ _ (execs _ _) _ _ _
    k_steps
    have hkl : k = els.length := by omega
    subst hkl
    refine fin (S := [si, sq]) hR lift F6 (by rw [hs1]) (fun hst => ⟨(hst.drop (S' := [sq]) hsi (N6 _ (.tail _ (.head _))).1 ?_).drop hsq (N6 _ (.tail _ (.tail _ (.head _)))).1 ?_, a, vals, na, rfl, (N6 _ (.head _)).1, hQ, hfa⟩)
    · intro b hb hne
      simp only [List.mem_cons, List.not_mem_nil, or_false] at hb ⊢
      exact hb.resolve_left hne
    · intro b hb hne
      exact absurd (List.mem_singleton.mp hb) hne
end Mine
end
section
open PySem PySem.W PyProof.Rows PySem.Calls
set_option maxRecDepth 100000
set_option maxHeartbeats 400000
namespace Mine
theorem rows9 : True := by
  k_with_none
  trivial
theorem fillK12Wr2 : (fun (_ : OpenLaw) (_ : Params → Frag) => True) PySem.Challenge.rw_ik0002_02 hd2.heap_39 := by
  k_fill
  trivial
noncomputable def wrS (c : Str) : Nat → Str
  | 0 => c
  | 1 => Str.ofString "\"" ++ c ++ Str.ofString "\""
  | _ => Str.ofString "\\" ++ c
theorem written0 {w : World} {H : Heap} {s : Shared} {tt tw : Tok} {c : Str}
   (B : Base (hd2.heap_39 w.params) H s.heap) (hcl : c.length ≤ 640) :
   Does PySem.Challenge.pw_ik0002_02 w 5 (.ref 91) [.str c tt, .int 0 tw] s (fun v h' => Stays [] s.heap h' ∧ ∃ t, v = .str (wrS c 0) t) := by
  have mu : ∀ q ∈ ([] : List (Addr × Obj)), s.heap.get? q.1 = some q.2 ∧ H.get? q.1 = none := by
    intro q hq
    cases hq
  intro R hR
  refine' enter (muts := []) B mu ?ho ?hcd ?hroom ?hbind ?hloc ?hcell ?hco ?hgen ?hk ?h
  case ho => k_is
  case hcd => k_is
  case hroom => decide
  case hbind => exact BindsTo.of_eq rfl
  case hloc => exact locs rfl
  case hcell => decide
  case hco => rfl
  case hgen => rfl
  case hk => rfl
  intro g L h₁ p loose mean mg mb X T F N hlt lift hL up
  k_steps
  rename Fr _ _ _ _ => F9
  exact fin (S := []) hR lift F9 rfl (fun st => ⟨st, _, rfl⟩)
theorem written1 {w : World} {H : Heap} {s : Shared} {tt tw : Tok} {c : Str}
   (B : Base (hd2.heap_39 w.params) H s.heap) (hcl : c.length ≤ 640) :
   Does PySem.Challenge.pw_ik0002_02 w 5 (.ref 91) [.str c tt, .int 1 tw] s (fun v h' => Stays [] s.heap h' ∧ ∃ t, v = .str (wrS c 1) t) := by
  have mu : ∀ q ∈ ([] : List (Addr × Obj)), s.heap.get? q.1 = some q.2 ∧ H.get? q.1 = none := by
    intro q hq
    cases hq
  intro R hR
  refine' enter (muts := []) B mu ?ho ?hcd ?hroom ?hbind ?hloc ?hcell ?hco ?hgen ?hk ?h
  case ho => k_is
  case hcd => k_is
  case hroom => decide
  case hbind => exact BindsTo.of_eq rfl
  case hloc => exact locs rfl
  case hcell => decide
  case hco => rfl
  case hgen => rfl
  case hk => rfl
  intro g L h₁ p loose mean mg mb X T F N hlt lift hL up
  k_steps
  rename Fr _ _ _ _ => F9
  exact fin (S := []) hR lift F9 rfl (fun st => ⟨st, _, rfl⟩)
theorem written2 {w : World} {H : Heap} {s : Shared} {tt tw : Tok} {c : Str}
   (B : Base (hd2.heap_39 w.params) H s.heap) (hcl : c.length ≤ 640) :
   Does PySem.Challenge.pw_ik0002_02 w 5 (.ref 91) [.str c tt, .int 2 tw] s (fun v h' => Stays [] s.heap h' ∧ ∃ t, v = .str (wrS c 2) t) := by
  have mu : ∀ q ∈ ([] : List (Addr × Obj)), s.heap.get? q.1 = some q.2 ∧ H.get? q.1 = none := by
    intro q hq
    cases hq
  intro R hR
  refine' enter (muts := []) B mu ?ho ?hcd ?hroom ?hbind ?hloc ?hcell ?hco ?hgen ?hk ?h
  case ho => k_is
  case hcd => k_is
  case hroom => decide
  case hbind => exact BindsTo.of_eq rfl
  case hloc => exact locs rfl
  case hcell => decide
  case hco => rfl
  case hgen => rfl
  case hk => rfl
  intro g L h₁ p loose mean mg mb X T F N hlt lift hL up
  k_steps
  rename Fr _ _ _ _ => F9
  exact fin (S := []) hR lift F9 rfl (fun st => ⟨st, _, rfl⟩)
theorem written_does {w : World} {H : Heap} {s : Shared} {tt tw : Tok} {c : Str} {way : Nat} (B : Base (hd2.heap_39 w.params) H s.heap) (hcl : c.length ≤ 640) (hw : way < 3) :
   Does PySem.Challenge.pw_ik0002_02 w 5 (.ref 91) [.str c tt, .int (way : Int) tw] s (fun v h' => Stays [] s.heap h' ∧ ∃ t, v = .str (wrS c way) t) := by
  obtain rfl | rfl | rfl : way = 0 ∨ way = 1 ∨ way = 2 := by omega
  · exact written0 B hcl
  · exact written1 B hcl
  · exact written2 B hcl
end Mine
end
section
open PySem PySem.W PyProof.Rows PySem.Calls
namespace Mine
theorem call_wr {w : World} {A : Around} {Q E : Value → Shared → Prop} {s : Shared} {g : Heap} {L : Addr} {m : Str → Option Value} {news : List (Addr × Obj)} {p : Program} {loose : List Str} {mean : ExcName → Option Value} {mg mb : Str → Option Value} {c : Str} {tt tw : Tok} {way : Nat}
   (X : (hd2.heap_39 w.params).In g) (T : Top p loose mean mg mb g) (F : Fr g L s.heap m) (N : News g L s.heap news) (hcl : c.length ≤ 640) (hw : way < 3)
   (h : ∀ h' tk' t, Fr g L h' m → News g L h' news → Q (.str (wrS c way) t) { s with heap := h', toks := tk' })
   (hh : A.handled = none := by exact rfl) (hd : A.depth ≤ (lvl 5).depth := by exact Nat.le_of_ble_eq_true rfl) (hu : A.units ≤ (lvl 5).units := by exact Nat.le_of_ble_eq_true rfl) :
   wpAny (model PySem.Challenge.pw_ik0002_02 w) A (call (.ref 91) [.str c tt, .int (way : Int) tw]) Q E s := by
  refine (written_does (H := g) ⟨X, ⟨_, _, _, _, _, T⟩, fun b o e => F.keep _ _ e⟩ hcl hw).call (fun v h' tk' hp => ?_) hh hd hu
  obtain ⟨st, t, rfl⟩ := hp
  obtain ⟨F', N'⟩ := after (S := []) (news' := news) F N st (fun b hb => by cases hb) (fun q hq => .inl ⟨hq, List.not_mem_nil⟩)
  exact h _ _ _ F' N'
end Mine
end
section
open PySem PySem.W PyProof.Rows PySem.Calls
namespace Mine
theorem call_wrz {w : World} {A : Around} {Q E : Value → Shared → Prop} {s : Shared} {g : Heap} {L : Addr} {m : Str → Option Value} {news : List (Addr × Obj)} {p : Program} {loose : List Str} {mean : ExcName → Option Value} {mg mb : Str → Option Value} {c : Str} {tt tw : Tok} {z : Int}
   (X : (hd2.heap_39 w.params).In g) (T : Top p loose mean mg mb g) (F : Fr g L s.heap m) (N : News g L s.heap news) (way : Nat) (c' : Str) (hc : c = c') (hz : z = (way : Int)) (hcl : c'.length ≤ 640) (hw : way < 3)
   (h : ∀ h' tk' t, Fr g L h' m → News g L h' news → (wrS c' way).length ≤ 642 → Q (.str (wrS c' way) t) { s with heap := h', toks := tk' })
   (hh : A.handled = none := by exact rfl) (hd : A.depth ≤ (lvl 5).depth := by exact Nat.le_of_ble_eq_true rfl) (hu : A.units ≤ (lvl 5).units := by exact Nat.le_of_ble_eq_true rfl) :
   wpAny (model PySem.Challenge.pw_ik0002_02 w) A (call (.ref 91) [.str c tt, .int z tw]) Q E s := by
  subst hz
  subst hc
  refine call_wr X T F N hcl hw (fun h' tk' t F' N' => h h' tk' t F' N' ?_) hh hd hu
  obtain rfl | rfl | rfl : way = 0 ∨ way = 1 ∨ way = 2 := by omega
  · exact Nat.le_trans hcl (by decide)
  · show ((Str.ofString "\"").cps ++ c.cps ++ (Str.ofString "\"").cps).size ≤ 642
    rw [Array.size_append, Array.size_append]
    have : c.cps.size ≤ 640 := hcl
    have h1 : (Str.ofString "\"").cps.size = 1 := by decide +kernel
    omega
  · show ((Str.ofString "\\").cps ++ c.cps).size ≤ 642
    rw [Array.size_append]
    have : c.cps.size ≤ 640 := hcl
    have h1 : (Str.ofString "\\").cps.size = 1 := by decide +kernel
    omega
theorem figT : ∀ n < 10, Str.ofString (toString ((n : Nat) : Int)) = figS n := by decide +kernel
noncomputable def turnOf (x : Int) : Turn := ((x / 3 % 10).toNat, (x % 3).toNat, if x / 30 % 2 = 1 then 2 else (x % 2).toNat)
theorem turnOf_ok (ns : List Int) : okT (ns.map turnOf) := by
  intro x hx
  obtain ⟨n, _, rfl⟩ := List.mem_map.mp hx
  exact ⟨by show (n / 3 % 10).toNat < 10; omega, by show (n % 3).toNat < 3; omega⟩
theorem fd3 (x : Int) : x.fdiv 3 = x / 3 := Int.fdiv_eq_ediv_of_nonneg _ (by decide)
theorem fd30 (x : Int) : x.fdiv 30 = x / 30 := Int.fdiv_eq_ediv_of_nonneg _ (by decide)
theorem fm3 (x : Int) : x.fmod 3 = x % 3 := Int.fmod_eq_emod_of_nonneg _ (by decide)
theorem fm2 (x : Int) : x.fmod 2 = x % 2 := Int.fmod_eq_emod_of_nonneg _ (by decide)
theorem fm10 (x : Int) : x.fmod 10 = x % 10 := Int.fmod_eq_emod_of_nonneg _ (by decide)
theorem fig_z (x : Int) : (x.fdiv 3).fmod 10 = ((turnOf x).1 : Int) := by
  rw [fd3, fm10]; show _ = (((x / 3 % 10).toNat : Nat) : Int); omega
theorem fig_is (x : Int) : Str.ofString (toString ((x.fdiv 3).fmod 10)) = figS (turnOf x).1 := by
  rw [fig_z]
  exact figT _ (by show (x / 3 % 10).toNat < 10; omega)
theorem fig_ok (x : Int) (a : Int) : IntMulOk a ((x.fdiv 3).fmod 10) := mul_fig _ _ (by rw [fd3, fm10]; omega) (by rw [fd3, fm10]; omega)
theorem wrS_writ {c : Str} {l : List Nat} (h : c.cps.toList = l) : ∀ way, (wrS c way).cps.toList = writ l way
  | 0 => h
  | 1 => by
    show ((Str.ofString "\"").cps ++ c.cps ++ (Str.ofString "\"").cps).toList = 34 :: (l ++ [34])
    rw [Array.toList_append, Array.toList_append, h]
    rfl
  | n + 2 => by
    show ((Str.ofString "\\").cps ++ c.cps).toList = 92 :: l
    rw [Array.toList_append, h]
    rfl
theorem str_app (a b : Str) : (a ++ b).cps.toList = a.cps.toList ++ b.cps.toList := Array.toList_append
theorem deedS_pts : ∀ o < 3, (deedS o).cps.toList = deed o := by decide +kernel
theorem blk_text {text : Str} {d o way : Nat} (ho : o < 3) :
   (text ++ wrS (figS d) way ++ Str.ofString " \t" ++ wrS (deedS o) way ++ Str.ofString "\u000d\n").cps.toList = text.cps.toList ++ blk d o way := by
  rw [str_app, str_app, str_app, str_app, wrS_writ (l := fig d) rfl, wrS_writ (deedS_pts o ho)]
  unfold blk
  have e1 : (Str.ofString " \t").cps.toList = [32, 9] := by decide +kernel
  have e2 : (Str.ofString "\u000d\n").cps.toList = [13, 10] := by decide +kernel
  rw [e1, e2]
  simp only [List.append_assoc]
theorem blk_len {d o way : Nat} (ho : o < 3) : (blk d o way).length ≤ 13 := by
  have w1 : ∀ (l : List Nat) way, (writ l way).length ≤ l.length + 2 := by
    intro l way
    unfold writ
    split
    · omega
    · simp
    · simp
  unfold blk
  have h1 := w1 (fig d) way
  have h2 := w1 (deed o) way
  have h3 : (deed o).length = 3 := by unfold deed; split <;> rfl
  have h4 : (fig d).length = 1 := rfl
  simp only [List.length_append, List.length_cons, List.length_nil]
  omega
theorem text0_len {l : List Turn} (h : okT l) : (text0 l).length ≤ 3 + 13 * l.length := by
  have : ∀ l : List Turn, okT l → (textT l).length ≤ 13 * l.length := by
    intro l
    induction l with
    | nil => intro _; exact Nat.zero_le _
    | cons x l ih =>
      intro h
      have h1 := ih fun y hy => h y (.tail _ hy)
      have h2 := blk_len (d := x.1) (way := x.2.2) (h x (.head _)).2
      show (blk x.1 x.2.1 x.2.2 ++ textT l).length ≤ 13 * (l.length + 1)
      rw [List.length_append]; omega
  have h1 := this l h
  have e : (text0 l).length = 3 + (textT l).length := by
    unfold text0; rw [List.length_append]; rfl
  omega
theorem text0_snoc {l : List Turn} {i : Nat} {x : Turn} (h : l[i]? = some x) : text0 (l.take (i + 1)) = text0 (l.take i) ++ blk x.1 x.2.1 x.2.2 := by
  unfold text0 textT
  rw [List.take_add_one, h, List.flatMap_append, List.append_assoc]
  simp
theorem row0_snoc {l : List Turn} {i : Nat} {x : Turn} (h : l[i]? = some x) : row0 (l.take (i + 1)) = row0 (l.take i) ++ [figS x.1, deedS x.2.1] := by
  unfold row0 rowT
  rw [List.take_add_one, h, List.flatMap_append, List.cons_append]
  simp
end Mine
end
section
open PySem PySem.W PyProof.Rows PySem.Calls
set_option maxRecDepth 100000
set_option maxHeartbeats 4000000
namespace Mine
noncomputable def lpM (row : Addr) (text : Str) (tt : Tok) (total : Int) (tot : Tok) (m : Str → Option Value) : Str → Option Value := fun y =>
  if y = Str.ofString "row" then some (.ref row) else if y = Str.ofString "text" then some (.str text tt) else if y = Str.ofString "total" then some (.int total tot) else m y
theorem lpM_of {g h : Heap} {L row : Addr} {text : Str} {tt : Tok} {total : Int} {tot : Tok} {M : Str → Option Value} (F : Fr g L h M) (h1 : M (Str.ofString "row") = some (.ref row)) (h2 : M (Str.ofString "text") = some (.str text tt))
   (h3 : M (Str.ofString "total") = some (.int total tot)) : Fr g L h (lpM row text tt total tot M) := by
  refine frCongr F fun y => ?_
  unfold lpM
  by_cases q1 : y = Str.ofString "row"
  · subst q1; rw [if_pos rfl]; exact h1
  rw [if_neg q1]
  by_cases q2 : y = Str.ofString "text"
  · subst q2; rw [if_pos rfl]; exact h2
  rw [if_neg q2]
  by_cases q3 : y = Str.ofString "total"
  · subst q3; rw [if_pos rfl]; exact h3
  rw [if_neg q3]
noncomputable def LpInv (g : Heap) (L D it : Addr) (els : List Value) (ns : List Int) (s : Shared) (c : Nat) (s' : Shared) : Prop :=
  ∃ i row vals n nD text tt total tot m oi, oi.cls = .type "list_iterator" ∧ oi.data = .fields #[.ref D, .int i 0] ∧ c = els.length - i ∧ i ≤ els.length ∧
    (Fr g L s'.heap (lpM row text tt total tot m) ∧ News g L s'.heap [(row, listOf vals.toArray n), (it, oi), (D, listOf els.toArray nD), (81, tabObj #[]), (58, tabObj #[]), (114, tabObj #[])]) ∧
    DatAll [] vals ((row0 ((ns.take i).map turnOf)).map Dat.str) ∧ text.cps.toList = text0 ((ns.take i).map turnOf) ∧ total = totT 3 ((ns.take i).map turnOf) ∧
    s' = { s with heap := s'.heap, toks := s'.toks }
theorem lpInit {g : Heap} {L D r it : Addr} {els : List Value} {ns : List Int} {tt tot : Tok} {n nD : Nat} {vals : List Value} {news : List (Addr × Obj)} {s s' : Shared} {M : Str → Option Value}
   (F : Fr g L s'.heap M) (N : News g L s'.heap news)
   (e1 : M (Str.ofString "row") = some (.ref r)) (e2 : M (Str.ofString "text") = some (.str (Str.ofString " 3\n") tt)) (e3 : M (Str.ofString "total") = some (.int 3 tot))
   (m0 : (it, itObj D 0) ∈ news) (m1 : (D, listOf els.toArray nD) ∈ news) (m2 : (r, listOf vals.toArray n) ∈ news) (m3 : (81, tabObj #[]) ∈ news) (m4 : (58, tabObj #[]) ∈ news) (m5 : (114, tabObj #[]) ∈ news)
   (hd : DatAll [] vals [Dat.str (Str.ofString "3")]) (hs : s' = { s with heap := s'.heap, toks := s'.toks }) : LpInv g L D it els ns s els.length s' := by
  refine ⟨0, r, vals, n, nD, Str.ofString " 3\n", tt, 3, tot, M, itObj D 0, rfl, rfl, rfl, Nat.zero_le _, ⟨lpM_of F e1 e2 e3, fun q hq => ?_⟩, hd, ?_, rfl, hs⟩
  · simp only [List.mem_cons, List.not_mem_nil, or_false] at hq
    rcases hq with rfl | rfl | rfl | rfl | rfl | rfl
    · exact N _ m2
    · exact N _ m0
    · exact N _ m1
    · exact N _ m3
    · exact N _ m4
    · exact N _ m5
  · show (Str.ofString " 3\n").cps.toList = [32, 51, 10]
    decide +kernel
theorem notIt {h : Heap} {it b : Addr} {o oi : Obj} (e : h.get? it = some oi) (ic : oi.cls = .type "list_iterator") (eb : h.get? b = some o) (ho : (match o.cls with | .type n => n == "list_iterator" | _ => false) = false) : b ≠ it := by
  rintro rfl
  rw [e] at eb
  cases eb
  rw [ic] at ho
  exact absurd ho (by decide)
theorem isIt2 {h : Heap} {it D : Addr} {i : Nat} {oi : Obj} (e : h.get? it = some oi) (ic : oi.cls = .type "list_iterator") (id : oi.data = .fields #[.ref D, .int i 0]) : h.IsListIter it D i := ⟨_, e, ic, id⟩
theorem ints_get : ∀ {vs : List Value} {ns : List Int}, IntsAre vs ns → ∀ {i : Nat}, i < vs.length → ∃ x t, vs[i]? = some (.int x t) ∧ ns[i]? = some x
  | _, _, .nil, _, h => absurd h (Nat.not_lt_zero _)
  | _, _, .cons n t r, 0, _ => ⟨n, t, rfl, rfl⟩
  | _, _, .cons n t r, i + 1, h => ints_get r (Nat.lt_of_succ_lt_succ h)

theorem way_2 {x : Int} (h : (x.fdiv 30).fmod 2 = 1) : (turnOf x).2.2 = 2 := by
  rw [fd30, fm2] at h
  exact if_pos h
theorem way_1 {x : Int} (h : ¬ (x.fdiv 30).fmod 2 = 1) : (turnOf x).2.2 = (x.fmod 2).toNat := by
  rw [fd30, fm2] at h
  rw [fm2]
  exact if_neg h
theorem deed_o {x : Int} {o : Nat} (h : x.fmod 3 = (o : Int)) : (turnOf x).2.1 = o := by
  rw [fm3] at h
  show (x % 3).toNat = o
  omega
theorem datAll_cat {news : List (Addr × Obj)} : ∀ {vs us : List Value} {ds es : List Dat}, DatAll news vs ds → DatAll news us es → DatAll news (vs ++ us) (ds ++ es)
  | [], _, _, _, D, E => by cases D; exact E
  | _ :: _, _, _, _, D, E => by
    cases D with
    | cons a r => exact .cons a (datAll_cat r E)
theorem lpNext {g : Heap} {L D it row' : Addr} {els vals vals' : List Value} {ns : List Int} {s s' : Shared} {c i n' nD : Nat} {text text' c1 c2 : Str} {tt' tot' t1 t2 : Tok} {total total' x : Int}
   {news : List (Addr × Obj)} {oi2 : Obj} {M : Str → Option Value} (o way : Nat)
   (ho : (turnOf x).2.1 = o) (hway : (turnOf x).2.2 = way) (hlt : i < els.length) (hc : c = els.length - i) (hnx : ns[i]? = some x)
   (F : Fr g L s'.heap M) (N : News g L s'.heap news)
   (e1 : M (Str.ofString "row") = some (.ref row')) (e2 : M (Str.ofString "text") = some (.str text' tt')) (e3 : M (Str.ofString "total") = some (.int total' tot'))
   (m0 : (it, oi2) ∈ news) (m1 : (D, listOf els.toArray nD) ∈ news) (m2 : (row', listOf vals'.toArray n') ∈ news) (m3 : (81, tabObj #[]) ∈ news) (m4 : (58, tabObj #[]) ∈ news) (m5 : (114, tabObj #[]) ∈ news)
   (ic2 : oi2.cls = .type "list_iterator") (id2 : oi2.data = .fields #[.ref D, .int ((i + 1 : Nat) : Int) 0])
   (hv : vals' = vals ++ [.str c1 t1, .str c2 t2]) (hc1 : c1 = figS (turnOf x).1) (hc2 : c2 = deedS o)
   (hD : DatAll [] vals ((row0 ((ns.take i).map turnOf)).map Dat.str)) (hT : text.cps.toList = text0 ((ns.take i).map turnOf)) (hX : total = totT 3 ((ns.take i).map turnOf))
   (hte : text' = text ++ wrS (figS (turnOf x).1) way ++ Str.ofString " \t" ++ wrS (deedS o) way ++ Str.ofString "\u000d\n")
   (hto : total' = opf (deedS o) total ((x.fdiv 3).fmod 10))
   (hs : s' = { s with heap := s'.heap, toks := s'.toks }) : Less (LpInv g L D it els ns s) c s' := by
  have hl : (ns.map turnOf)[i]? = some (turnOf x) := by rw [List.getElem?_map, hnx]; rfl
  have ho3 : o < 3 := ho ▸ (turnOf_ok [x] _ (.head _)).2
  refine .mk (els.length - (i + 1)) (by omega) ⟨i + 1, row', vals', n', nD, text', tt', total', tot', M, oi2, ic2, id2, rfl, hlt, ⟨lpM_of F e1 e2 e3, fun q hq => ?_⟩, ?_, ?_, ?_, hs⟩
  · simp only [List.mem_cons, List.not_mem_nil, or_false] at hq
    rcases hq with rfl | rfl | rfl | rfl | rfl | rfl
    · exact N _ m2
    · exact N _ m0
    · exact N _ m1
    · exact N _ m3
    · exact N _ m4
    · exact N _ m5
  · rw [hv, List.map_take, row0_snoc hl, List.map_append, ← List.map_take]
    refine datAll_cat hD ?_
    subst hc1
    subst hc2
    rw [← ho]
    exact .cons (.str _ _) (.cons (.str _ _) .nil)
  · rw [hte, blk_text ho3, hT, List.map_take, List.map_take, text0_snoc hl, ho, hway]
  · rw [hto, hX, List.map_take, List.map_take, totT_snoc hl, ho, fig_z]
end Mine
end
section
open PySem PySem.W PyProof.Rows PySem.Calls
set_option maxRecDepth 100000
set_option maxHeartbeats 400000
namespace Mine
theorem fillK9Step2 : (fun (_ : OpenLaw) (_ : Params → Frag) => True) PySem.Challenge.rw_ik0002_02 hd2.heap_39 := by
  k_fill
  trivial
theorem step_fig {w : World} {H : Heap} {s : Shared} {sk : Addr} {vs : List Value} {n : Nat} {tt : Tok} {c : Str} {d : Int}
   (B : Base (hd2.heap_39 w.params) H s.heap) (hC : CodeHd H 83 81) (hsk : s.heap.get? sk = some (listOf vs.toArray n)) (hf : H.get? sk = none) (hz : vs.length ≤ 100000) (hin : (Builtin.Str.occurrences (Str.ofString "0123456789") c 0 (Str.ofString "0123456789").length 1).isEmpty = false) (hd : PySem.intText? c = some d) (hcl : c.length ≤ 640) :
   Does PySem.Challenge.pw_ik0002_02 w 5 (.ref 98) [.ref sk, .str c tt] s (fun v h' => ∃ t, StackPost (vs ++ [Value.int d t]) s.heap v h') := by
  have mu : ∀ q ∈ [(sk, listOf vs.toArray n)], s.heap.get? q.1 = some q.2 ∧ H.get? q.1 = none := by
    intro q hq
    rcases List.mem_singleton.mp hq with rfl
    exact ⟨hsk, hf⟩
  intro R hR'
  have hR := fun t v h' tk' hp => hR' v h' tk' ⟨t, hp⟩
  refine' enter (muts := [(sk, listOf vs.toArray n)]) B mu ?ho ?hcd ?hroom ?hbind ?hloc ?hcell ?hco ?hgen ?hk ?h
  case ho => k_is
  case hcd => k_is
  case hroom => decide
  case hbind => exact BindsTo.of_eq rfl
  case hloc => exact locs rfl
  case hcell => decide
  case hco => rfl
  case hgen => rfl
  case hk => rfl
  intro g L h₁ p loose mean mg mb X T F N hlt lift hL up
  have hCg := hC.keeps up
  k_steps
  rename Fr _ _ _ _ => F9
  rename News _ _ _ _ => N9
  have c0 := N9 _ (.head _)
  have c1 := (N9 _ (.tail _ (.tail _ (.head _)))).1
  clear N9
  rename News _ _ _ _ => N8
  exact stackFin hsk (hR _) lift F9 rfl c1 (Nat.ne_of_gt (Heap.lt_size (N8 _ (.tail _ (.head _))).1)) c0 rfl
theorem rows10 : True := by
  k_with_none
  k_with "subscriptTail Name Slice ref ref" => ((k_here; (with_reducible show wpAny _ _ (subscriptTail _ (PySem.Expr.Slice _ _ none _) (Value.ref _) (Value.ref _)) _ _ _); k_dflt (refine' kms_slice_lit ?Fz9 ?Nz9 ?lz9 ?pz9 ?qz9 ?ez9 ?_ ?sz9 ?tz9 ?zz9; (case Fz9 => k_asm); (case Nz9 => k_asm); (case lz9 => kmk_list); (case pz9 => kmk_part); (case qz9 => kmk_part); (case ez9 => (first | exact kpt2 | exact kpi2 | exact kpt3 | exact kpi3)); (case sz9 => with_unfolding_all rfl); (case tz9 => kmk_pure); (case zz9 => kmk_size)); intro _ _ _ _ l1z9; (try k_lt l1z9); (try k_sweep)))
  trivial
theorem step_add {w : World} {H : Heap} {s : Shared} {sk : Addr} {vs : List Value} {n : Nat} {tt ta tb : Tok} {a b : Int}
   (B : Base (hd2.heap_39 w.params) H s.heap) (hC : CodeHd H 83 81) (hsk : s.heap.get? sk = some (listOf (vs ++ [Value.int a ta, Value.int b tb]).toArray n)) (hf : H.get? sk = none) (hz : vs.length ≤ 100000) :
   Does PySem.Challenge.pw_ik0002_02 w 5 (.ref 98) [.ref sk, .str (Str.ofString "add") tt] s (fun v h' => ∃ t, StackPost (vs ++ [Value.int (a + b) t]) s.heap v h') := by
  have mu : ∀ q ∈ [(sk, listOf (vs ++ [Value.int a ta, Value.int b tb]).toArray n)], s.heap.get? q.1 = some q.2 ∧ H.get? q.1 = none := by
    intro q hq
    rcases List.mem_singleton.mp hq with rfl
    exact ⟨hsk, hf⟩
  intro R hR'
  have hR := fun t v h' tk' hp => hR' v h' tk' ⟨t, hp⟩
  refine' enter (muts := [(sk, listOf (vs ++ [Value.int a ta, Value.int b tb]).toArray n)]) B mu ?ho ?hcd ?hroom ?hbind ?hloc ?hcell ?hco ?hgen ?hk ?h
  case ho => k_is
  case hcd => k_is
  case hroom => decide
  case hbind => exact BindsTo.of_eq rfl
  case hloc => exact locs rfl
  case hcell => decide
  case hco => rfl
  case hgen => rfl
  case hk => rfl
  intro g L h₁ p loose mean mg mb X T F N hlt lift hL up
  have hCg := hC.keeps up
  k_steps
  · rename Fr _ _ _ _ => F9
    rename News _ _ _ _ => N9
    have c0 := N9 _ (.head _)
    have c1 := (N9 _ (.tail _ (.tail _ (.tail _ (.tail _ (.head _)))))).1
    clear N9
    rename News _ _ _ _ => N8
    exact stackFin hsk (hR _) lift F9 rfl c1 (Nat.ne_of_gt (Heap.lt_size (N8 _ (.tail _ (.tail _ (.tail _ (.head _))))).1)) c0 rfl
  · rename _ = false => q
    exact absurd q (by decide +kernel)
theorem step_sub {w : World} {H : Heap} {s : Shared} {sk : Addr} {vs : List Value} {n : Nat} {tt ta tb : Tok} {a b : Int}
   (B : Base (hd2.heap_39 w.params) H s.heap) (hC : CodeHd H 83 81) (hsk : s.heap.get? sk = some (listOf (vs ++ [Value.int a ta, Value.int b tb]).toArray n)) (hf : H.get? sk = none) (hz : vs.length ≤ 100000) :
   Does PySem.Challenge.pw_ik0002_02 w 5 (.ref 98) [.ref sk, .str (Str.ofString "sub") tt] s (fun v h' => ∃ t, StackPost (vs ++ [Value.int (a - b) t]) s.heap v h') := by
  have mu : ∀ q ∈ [(sk, listOf (vs ++ [Value.int a ta, Value.int b tb]).toArray n)], s.heap.get? q.1 = some q.2 ∧ H.get? q.1 = none := by
    intro q hq
    rcases List.mem_singleton.mp hq with rfl
    exact ⟨hsk, hf⟩
  intro R hR'
  have hR := fun t v h' tk' hp => hR' v h' tk' ⟨t, hp⟩
  refine' enter (muts := [(sk, listOf (vs ++ [Value.int a ta, Value.int b tb]).toArray n)]) B mu ?ho ?hcd ?hroom ?hbind ?hloc ?hcell ?hco ?hgen ?hk ?h
  case ho => k_is
  case hcd => k_is
  case hroom => decide
  case hbind => exact BindsTo.of_eq rfl
  case hloc => exact locs rfl
  case hcell => decide
  case hco => rfl
  case hgen => rfl
  case hk => rfl
  intro g L h₁ p loose mean mg mb X T F N hlt lift hL up
  have hCg := hC.keeps up
  k_steps
  · rename Fr _ _ _ _ => F9
    rename News _ _ _ _ => N9
    have c0 := N9 _ (.head _)
    have c1 := (N9 _ (.tail _ (.tail _ (.tail _ (.tail _ (.head _)))))).1
    clear N9
    rename News _ _ _ _ => N8
    exact stackFin hsk (hR _) lift F9 rfl c1 (Nat.ne_of_gt (Heap.lt_size (N8 _ (.tail _ (.tail _ (.tail _ (.head _))))).1)) c0 rfl
  · rename _ = false => q
    exact absurd q (by decide +kernel)
theorem rows11 : True := by
  k_with "binaryOp Mult int int" => (with_reducible refine PyProof.Rows.mul_int ?_ (by assumption))
  trivial
theorem step_mul {w : World} {H : Heap} {s : Shared} {sk : Addr} {vs : List Value} {n : Nat} {tt ta tb : Tok} {a b : Int}
   (B : Base (hd2.heap_39 w.params) H s.heap) (hC : CodeHd H 83 81) (hsk : s.heap.get? sk = some (listOf (vs ++ [Value.int a ta, Value.int b tb]).toArray n)) (hf : H.get? sk = none) (hz : vs.length ≤ 100000) (hm : IntMulOk a b) :
   Does PySem.Challenge.pw_ik0002_02 w 5 (.ref 98) [.ref sk, .str (Str.ofString "mul") tt] s (fun v h' => ∃ t, StackPost (vs ++ [Value.int (a * b) t]) s.heap v h') := by
  have mu : ∀ q ∈ [(sk, listOf (vs ++ [Value.int a ta, Value.int b tb]).toArray n)], s.heap.get? q.1 = some q.2 ∧ H.get? q.1 = none := by
    intro q hq
    rcases List.mem_singleton.mp hq with rfl
    exact ⟨hsk, hf⟩
  intro R hR'
  have hR := fun t v h' tk' hp => hR' v h' tk' ⟨t, hp⟩
  refine' enter (muts := [(sk, listOf (vs ++ [Value.int a ta, Value.int b tb]).toArray n)]) B mu ?ho ?hcd ?hroom ?hbind ?hloc ?hcell ?hco ?hgen ?hk ?h
  case ho => k_is
  case hcd => k_is
  case hroom => decide
  case hbind => exact BindsTo.of_eq rfl
  case hloc => exact locs rfl
  case hcell => decide
  case hco => rfl
  case hgen => rfl
  case hk => rfl
  intro g L h₁ p loose mean mg mb X T F N hlt lift hL up
  have hCg := hC.keeps up
  k_steps
  · rename Fr _ _ _ _ => F9
    rename News _ _ _ _ => N9
    have c0 := N9 _ (.head _)
    have c1 := (N9 _ (.tail _ (.tail _ (.tail _ (.tail _ (.head _)))))).1
    clear N9
    rename News _ _ _ _ => N8
    exact stackFin hsk (hR _) lift F9 rfl c1 (Nat.ne_of_gt (Heap.lt_size (N8 _ (.tail _ (.tail _ (.tail _ (.head _))))).1)) c0 rfl
  · rename _ = false => q
    exact absurd q (by decide +kernel)
end Mine
end
section
open PySem PySem.W PyProof.Rows PySem.Calls
set_option maxRecDepth 100000
set_option maxHeartbeats 400000
namespace Mine
theorem fillK10Back2 : (fun (_ : OpenLaw) (_ : Params → Frag) => True) PySem.Challenge.rw_ik0002_02 hd2.heap_39 := by
  k_fill
  trivial
theorem rows12 : True := by
  k_with_none
  k_with "exec While" => ((k_here; with_reducible refine wpAny_While ?_))
  k_with "subscriptTail Name Slice ref ref" => ((k_here; (with_reducible show wpAny _ _ (subscriptTail _ (PySem.Expr.Slice _ _ none _) (Value.ref _) (Value.ref _)) _ _ _); k_dflt (refine' kms_slice_lit ?Fz9 ?Nz9 ?lz9 ?pz9 ?qz9 ?ez9 ?_ ?sz9 ?tz9 ?zz9; (case Fz9 => k_asm); (case Nz9 => k_asm); (case lz9 => kmk_list); (case pz9 => kmk_part); (case qz9 => kmk_part); (case ez9 => (first | exact kpt2 | exact kpi2 | exact kpt3 | exact kpi3)); (case sz9 => with_unfolding_all rfl); (case tz9 => kmk_pure); (case zz9 => kmk_size)); intro _ _ _ _ l1z9; (try k_lt l1z9); (try k_sweep)))
  trivial
noncomputable def bkM (D : Addr) (word : Value) (od o1 o2 : Option Value) : Str → Option Value := fun y =>
  if y = Str.ofString "two" then o2 else if y = Str.ofString "one" then o1 else if y = Str.ofString "deed" then od else if y = Str.ofString "stack" then some (.ref D) else if y = Str.ofString "word" then some word else none
theorem bkInit {g h : Heap} {L D sk : Addr} {word : Value} {m0 : Str → Option Value} (F : Fr g L h (fun y => if y = Str.ofString "stack" then some (.ref D) else m0 y)) (e : ∀ y, m0 y = [(Str.ofString "word", word), (Str.ofString "stack", Value.ref sk)].lookup y) : Fr g L h (bkM D word none none none) := by
  refine frCongr F fun y => ?_
  unfold bkM
  by_cases h1 : y = Str.ofString "two"
  · subst h1; rw [if_neg (by decide), if_pos rfl, e]; rfl
  rw [if_neg h1]
  by_cases h2 : y = Str.ofString "one"
  · subst h2; rw [if_neg (by decide), if_pos rfl, e]; rfl
  rw [if_neg h2]
  by_cases h3 : y = Str.ofString "deed"
  · subst h3; rw [if_neg (by decide), if_pos rfl, e]; rfl
  rw [if_neg h3]
  by_cases h4 : y = Str.ofString "stack"
  · subst h4; rw [if_pos rfl, if_pos rfl]
  rw [if_neg h4, if_neg h4, e, List.lookup_cons]
  by_cases h5 : y = Str.ofString "word"
  · subst h5; rw [if_pos rfl]; rfl
  rw [if_neg h5, show (y == Str.ofString "word") = false from beq_eq_false_iff_ne.mpr h5]
  simp only [List.lookup_cons, show (y == Str.ofString "stack") = false from beq_eq_false_iff_ne.mpr h4]
  rfl
theorem bkTurn {g h : Heap} {L D D' : Addr} {word v1 v2 v3 : Value} {od o1 o2 : Option Value} (F : Fr g L h (fun y => if y = Str.ofString "stack" then some (.ref D') else if y = Str.ofString "two" then some v3 else if y = Str.ofString "one" then some v2 else if y = Str.ofString "deed" then some v1 else bkM D word od o1 o2 y)) : Fr g L h (bkM D' word (some v1) (some v2) (some v3)) := by
  refine frCongr F fun y => ?_
  unfold bkM
  by_cases h4 : y = Str.ofString "stack"
  · subst h4; rw [if_pos rfl, if_neg (by decide), if_neg (by decide), if_neg (by decide), if_pos rfl]
  by_cases h1 : y = Str.ofString "two"
  · simp only [if_neg h4, if_pos h1]
  by_cases h2 : y = Str.ofString "one"
  · simp only [if_neg h4, if_neg h1, if_pos h2]
  by_cases h3 : y = Str.ofString "deed"
  · simp only [if_neg h4, if_neg h1, if_neg h2, if_pos h3]
  simp only [if_neg h4, if_neg h1, if_neg h2, if_neg h3]
noncomputable def BkAt (g : Heap) (L sk D : Addr) (os : Obj) (vals : List Value) (word : Value) (od o1 o2 : Option Value) (h : Heap) : Prop :=
  Fr g L h (bkM D word od o1 o2) ∧ D ≠ sk ∧ ∃ n, News g L h [(D, listOf vals.toArray n), (sk, os)]
theorem rows13 : True := by
  k_with "bk_len" => (first | assumption | (simp only [List.length_append, List.length_cons, List.length_nil] at *; omega))
  k_with "call builtin:len" => ((k_here; (with_reducible show wpAny _ _ (call (Value.builtin "len") [Value.ref _]) _ _ _); k_dflt (refine' klen ?lz9 ?zz9 ?_; (case lz9 => exact News.isList (by k_asm) (by k_mem)); (case zz9 => walk_at "bk_len"))))
  k_with "subscriptTail Name UnaryOp ref int" => ((k_here; (with_reducible show wpAny _ _ (subscriptTail _ _ (Value.ref _) (Value.int _ _)) _ _ _); first
     | (with_unfolding_all refine' kneg 0 (News.isList (by k_asm) (by k_mem)) ?az9 ?bz9 ?cz9 ?dz9 ?_ ?ez9; (case az9 => decide); (case bz9 => exact Nat.le_of_ble_eq_true rfl); (case cz9 => exact rfl); (case dz9 => decide); (case ez9 => with_unfolding_all rfl))
     | (with_unfolding_all refine' kneg 1 (News.isList (by k_asm) (by k_mem)) ?az9 ?bz9 ?cz9 ?dz9 ?_ ?ez9; (case az9 => decide); (case bz9 => exact Nat.le_of_ble_eq_true rfl); (case cz9 => exact rfl); (case dz9 => decide); (case ez9 => with_unfolding_all rfl))))
  k_with "compareOp NotIn int ref" => ((k_here; (with_reducible show wpAny _ _ (compareOp CmpOp.NotIn (Value.int _ _) (Value.ref _)) _ _ _); k_dflt (refine' notInInt3 ?lz9 ?_; (case lz9 => exact News.isList (by k_asm) (by k_mem)))))
  k_with "binaryOp Mult int int" => (with_reducible refine PyProof.Rows.mul_int ?_ (by assumption))
  k_with "binaryOp Add ref ref" => ((k_here; (with_reducible show wpAny _ _ (binaryOp _ (Value.ref _) (Value.ref _)) _ _ _); k_dflt (refine' addL ?Fz9 ?Nz9 ?az9 ?bz9 ?_ ?zz9; (case Fz9 => k_asm); (case Nz9 => k_asm); (case az9 => exact News.isList (by k_asm) (by k_mem)); (case bz9 => exact News.isList (by k_asm) (by k_mem)); (case zz9 => (simp only [List.length_append, List.length_cons, List.length_nil]; omega))); intro _ _ _ _ l1z9; (try k_lt l1z9); (try k_sweep)))
  trivial
noncomputable def BkInv (g : Heap) (L sk : Addr) (os : Obj) (word : Value) (res : List Dat) (s : Shared) (k : Nat) (s' : Shared) : Prop :=
  ∃ D vals ds od o1 o2, BkAt g L sk D os vals word od o1 o2 s'.heap ∧ DatAll [] vals ds ∧ Folds ds res ∧ k = ds.length ∧ ds.length ≤ 100001 ∧ s' = { s with heap := s'.heap, toks := s'.toks }
theorem rows14 : True := by
  k_with "mem_" => ((first | exact .head _ | exact .tail _ (.head _) | exact .tail _ (.tail _ (.head _)) | exact .tail _ (.tail _ (.tail _ (.head _))) | exact .tail _ (.tail _ (.tail _ (.tail _ (.head _)))) | exact .tail _ (.tail _ (.tail _ (.tail _ (.tail _ (.head _))))) | exact .tail _ (.tail _ (.tail _ (.tail _ (.tail _ (.tail _ (.head _)))))) | exact .tail _ (.tail _ (.tail _ (.tail _ (.tail _ (.tail _ (.tail _ (.head _)))))))))
  trivial
set_option maxHeartbeats 4000000 in
theorem bk_loop {w : World} {g : Heap} {L sk : Addr} {s s1 : Shared} {p : Program} {loose : List Str} {mg mb : Str → Option Value} {mean : ExcName → Option Value} {R0 : Result → Shared → Prop} {word : Value} {vs : List Value} {n : Nat} {res : List Dat} {k0 : Nat}
   (X : (hd2.heap_39 w.params).In g) (T : Top p loose mean mg mb g) (hCg : CodeHd g 83 81) (hinv : BkInv g L sk (listOf vs.toArray n) word res s k0 s1)
   (hR0 : ∀ s2 D vals od o1 o2, BkAt g L sk D (listOf vs.toArray n) vals word od o1 o2 s2.heap → DatAll [] vals res → s2 = { s with heap := s2.heap, toks := s2.toks } → R0 (.ok .next) s2) :
   ∀ st1 test wbody orelse wpos tail scope f osl nm qual params dV kV doc pm an ct oc od cd, (hd2.heap_39 w.params).lookup 105 = some ⟨oc, od, .func (fnOf nm qual params (st1 :: .While test wbody orelse wpos :: tail) scope dV kV doc pm an cd ct), osl⟩ →
   codeAny (model PySem.Challenge.pw_ik0002_02 w) ((lvl 5).deeper (envOf qual scope L f cd)) (.whileLoop test wbody orelse (envOf qual scope L f cd)) R0 s1 := by
  intro st1 test wbody orelse wpos tail scope f osl nm qual params dV kV doc pm an ct oc od cd ho
  refine' (fun (q : _ = _) => ?_) (Eq.trans (Eq.symm ho) ?h)
  case h => k_is
  cases q
  clear ho
  refine whileLoopA (BkInv g L sk (listOf vs.toArray n) word res s) ?turn k0 hinv
  clear hinv
  rintro k s1 ⟨D, vals, ds1, od, o1, o2, ⟨F5, hne, n5, N5⟩, D1, hF1, hk, hl1, hs1⟩ Nx R' hNx hR'
  have hne' := neN hne
  cases hF1 with
  | small h2 =>
    have hvl := D1.length
    k_steps
    (rename News _ _ _ _ => N9; rename Fr _ _ _ _ => F9; exact hR' _ _ (hR0 _ _ _ _ _ _ ⟨F9, hne, _, news2 (N9 (D, listOf _ _) (by walk_at "mem_")) (N9 (sk, _) (by walk_at "mem_"))⟩ D1 (by rw [hs1])))
  | deed1 hd =>
    obtain ⟨pre, suf, rfl, Dp, Ds⟩ := datAll_append D1
    obtain ⟨t1, rfl⟩ := datSuf1 Ds
    have hvl := Dp.length
    rw [List.length_append] at hl1 hk
    simp only [List.length_cons, List.length_nil] at hl1 hk
    rcases hd with rfl | rfl | rfl
    all_goals k_steps
    all_goals (rename News _ _ _ _ => N9; rename Fr _ _ _ _ => F9; exact hR' _ _ (hR0 _ _ _ _ _ _ ⟨F9, hne, _, news2 (N9 (D, listOf _ _) (by walk_at "mem_")) (N9 (sk, _) (by walk_at "mem_"))⟩ D1 (by rw [hs1])))
  | deed2 hd =>
    obtain ⟨pre, suf, rfl, Dp, Ds⟩ := datAll_append D1
    obtain ⟨t1, t2, rfl⟩ := datSuf2 Ds
    have hvl := Dp.length
    rw [List.length_append] at hl1 hk
    simp only [List.length_cons, List.length_nil] at hl1 hk
    rcases hd with rfl | rfl | rfl
    all_goals k_steps
    all_goals (rename News _ _ _ _ => N9; rename Fr _ _ _ _ => F9; exact hR' _ _ (hR0 _ _ _ _ _ _ ⟨F9, hne, _, news2 (N9 (D, listOf _ _) (by walk_at "mem_")) (N9 (sk, _) (by walk_at "mem_"))⟩ D1 (by rw [hs1])))
  | turn hd hm hF2 =>
    obtain ⟨pre, suf, rfl, Dp, Ds⟩ := datAll_append D1
    obtain ⟨t1, t2, t3, rfl⟩ := datSuf3 Ds
    have hvl := Dp.length
    rw [List.length_append] at hl1 hk
    simp only [List.length_cons, List.length_nil] at hl1 hk
    rcases hd with rfl | rfl | rfl
    · k_steps
      · rename News _ _ _ _ => N9
        rename Fr _ _ _ _ => F9
        have c0 := N9 _ (.head _)
        have c1 := N9 (sk, _) (by walk_at "mem_")
        refine hNx _ (.mk (pre.length + 1) (by omega) ⟨_, _, _, _, _, _, ⟨bkTurn F9, ?_, _, news2 c0 c1⟩, datAll_app (.cons (.int _ _) .nil) Dp, hF2, ?_, ?_, by rw [hs1]⟩)
        · exact Ne.symm (Nat.ne_of_lt (by omega))
        · simp only [List.length_append, List.length_cons, List.length_nil]; omega
        · simp only [List.length_append, List.length_cons, List.length_nil]; omega
      · exfalso
        simp only [List.length_append, List.length_cons, List.length_nil] at *
        omega
    · k_steps
      · rename News _ _ _ _ => N9
        rename Fr _ _ _ _ => F9
        have c0 := N9 _ (.head _)
        have c1 := N9 (sk, _) (by walk_at "mem_")
        refine hNx _ (.mk (pre.length + 1) (by omega) ⟨_, _, _, _, _, _, ⟨bkTurn F9, ?_, _, news2 c0 c1⟩, datAll_app (.cons (.int _ _) .nil) Dp, hF2, ?_, ?_, by rw [hs1]⟩)
        · exact Ne.symm (Nat.ne_of_lt (by omega))
        · simp only [List.length_append, List.length_cons, List.length_nil]; omega
        · simp only [List.length_append, List.length_cons, List.length_nil]; omega
      · exfalso
        simp only [List.length_append, List.length_cons, List.length_nil] at *
        omega
    · k_steps
      · rename News _ _ _ _ => N9
        rename Fr _ _ _ _ => F9
        have c0 := N9 _ (.head _)
        have c1 := N9 (sk, _) (by walk_at "mem_")
        refine hNx _ (.mk (pre.length + 1) (by omega) ⟨_, _, _, _, _, _, ⟨bkTurn F9, ?_, _, news2 c0 c1⟩, datAll_app (.cons (.int _ _) .nil) Dp, hF2, ?_, ?_, by rw [hs1]⟩)
        · exact Ne.symm (Nat.ne_of_lt (by omega))
        · simp only [List.length_append, List.length_cons, List.length_nil]; omega
        · simp only [List.length_append, List.length_cons, List.length_nil]; omega
      · exfalso
        simp only [List.length_append, List.length_cons, List.length_nil] at *
        omega
set_option maxHeartbeats 2000000 in
theorem back_add {w : World} {H : Heap} {s : Shared} {sk : Addr} {vs : List Value} {n : Nat} {tt : Tok} {ds res : List Dat}
   (B : Base (hd2.heap_39 w.params) H s.heap) (hC : CodeHd H 83 81) (hsk : s.heap.get? sk = some (listOf vs.toArray n)) (hf : H.get? sk = none) (hz : vs.length ≤ 100000) (DA : DatAll [] vs ds) (hF : Folds (ds ++ [Dat.str (Str.ofString "add")]) res) :
   Does PySem.Challenge.pw_ik0002_02 w 5 (.ref 105) [.ref sk, Value.str (Str.ofString "add") tt] s (fun v h' => ∃ vals, DatAll [] vals res ∧ StackPost vals s.heap v h') := by
  have mu : ∀ q ∈ [(sk, listOf vs.toArray n)], s.heap.get? q.1 = some q.2 ∧ H.get? q.1 = none := by
    intro q hq
    rcases List.mem_singleton.mp hq with rfl
    exact ⟨hsk, hf⟩
  intro R hR'
  have hR := fun vals (hD : DatAll [] vals res) v h' tk' hp => hR' v h' tk' ⟨vals, hD, hp⟩
  refine' enter (muts := [(sk, listOf vs.toArray n)]) B mu ?ho ?hcd ?hroom ?hbind ?hloc ?hcell ?hco ?hgen ?hk ?h
  case ho => k_is
  case hcd => k_is
  case hroom => decide
  case hbind => exact BindsTo.of_eq rfl
  case hloc => exact locs rfl
  case hcell => decide
  case hco => rfl
  case hgen => rfl
  case hk => rfl
  intro g L h₁ p loose mean mg mb X T F N hlt lift hL up
  have hCg := hC.keeps up
  k_steps
  · rename News _ _ _ _ => N9
    rename Fr _ _ _ _ => F9
    have c0 := N9 _ (.head _)
    have c1 := N9 _ (.tail _ (.tail _ (.head _)))
    refine bk_loop (sk := sk) (s := s) (word := .str (Str.ofString "add") tt) (vs := vs) (n := n) (res := res) (k0 := (ds ++ [Dat.str (Str.ofString "add")]).length) X T hCg ?init ?fin _ _ _ _ _ _ _ _ _ _ _ _ _ _ _ _ _ _ _ _ _ (by k_is)
    case init =>
      refine ⟨_, vs ++ [Value.str (Str.ofString "add") tt], _, none, none, none, ⟨bkInit F9 (fun y => rfl), ?_, _, news2 c0 c1⟩, datAll_app (.cons (.str _ _) .nil) DA, hF, rfl, ?_, rfl⟩
      · exact Ne.symm (Nat.ne_of_lt (by omega))
      · have := DA.length
        rw [List.length_append, ← this]
        exact Nat.succ_le_succ hz
    clear N9 F9 c0 c1
    rintro s2 D vals od o1 o2 ⟨F5, hne, n5, N5⟩ D1 hs2
    have hne' := neN hne
    show wpAny _ _ (execs _ _) _ _ _
    k_steps
    rename News _ _ _ _ => N9
    rename Fr _ _ _ _ => F9
    exact stackFin hsk (hR _ D1) lift F9 (by rw [hs2]) (N9 (_, listOf _ _) (by walk_at "mem_")).1 hne (N9 (_, listOf _ _) (by walk_at "mem_")) rfl
  all_goals (rename _ = false => q; exact absurd q (by decide +kernel))
set_option maxHeartbeats 2000000 in
theorem back_sub {w : World} {H : Heap} {s : Shared} {sk : Addr} {vs : List Value} {n : Nat} {tt : Tok} {ds res : List Dat}
   (B : Base (hd2.heap_39 w.params) H s.heap) (hC : CodeHd H 83 81) (hsk : s.heap.get? sk = some (listOf vs.toArray n)) (hf : H.get? sk = none) (hz : vs.length ≤ 100000) (DA : DatAll [] vs ds) (hF : Folds (ds ++ [Dat.str (Str.ofString "sub")]) res) :
   Does PySem.Challenge.pw_ik0002_02 w 5 (.ref 105) [.ref sk, Value.str (Str.ofString "sub") tt] s (fun v h' => ∃ vals, DatAll [] vals res ∧ StackPost vals s.heap v h') := by
  have mu : ∀ q ∈ [(sk, listOf vs.toArray n)], s.heap.get? q.1 = some q.2 ∧ H.get? q.1 = none := by
    intro q hq
    rcases List.mem_singleton.mp hq with rfl
    exact ⟨hsk, hf⟩
  intro R hR'
  have hR := fun vals (hD : DatAll [] vals res) v h' tk' hp => hR' v h' tk' ⟨vals, hD, hp⟩
  refine' enter (muts := [(sk, listOf vs.toArray n)]) B mu ?ho ?hcd ?hroom ?hbind ?hloc ?hcell ?hco ?hgen ?hk ?h
  case ho => k_is
  case hcd => k_is
  case hroom => decide
  case hbind => exact BindsTo.of_eq rfl
  case hloc => exact locs rfl
  case hcell => decide
  case hco => rfl
  case hgen => rfl
  case hk => rfl
  intro g L h₁ p loose mean mg mb X T F N hlt lift hL up
  have hCg := hC.keeps up
  k_steps
  · rename News _ _ _ _ => N9
    rename Fr _ _ _ _ => F9
    have c0 := N9 _ (.head _)
    have c1 := N9 _ (.tail _ (.tail _ (.head _)))
    refine bk_loop (sk := sk) (s := s) (word := .str (Str.ofString "sub") tt) (vs := vs) (n := n) (res := res) (k0 := (ds ++ [Dat.str (Str.ofString "sub")]).length) X T hCg ?init ?fin _ _ _ _ _ _ _ _ _ _ _ _ _ _ _ _ _ _ _ _ _ (by k_is)
    case init =>
      refine ⟨_, vs ++ [Value.str (Str.ofString "sub") tt], _, none, none, none, ⟨bkInit F9 (fun y => rfl), ?_, _, news2 c0 c1⟩, datAll_app (.cons (.str _ _) .nil) DA, hF, rfl, ?_, rfl⟩
      · exact Ne.symm (Nat.ne_of_lt (by omega))
      · have := DA.length
        rw [List.length_append, ← this]
        exact Nat.succ_le_succ hz
    clear N9 F9 c0 c1
    rintro s2 D vals od o1 o2 ⟨F5, hne, n5, N5⟩ D1 hs2
    have hne' := neN hne
    show wpAny _ _ (execs _ _) _ _ _
    k_steps
    rename News _ _ _ _ => N9
    rename Fr _ _ _ _ => F9
    exact stackFin hsk (hR _ D1) lift F9 (by rw [hs2]) (N9 (_, listOf _ _) (by walk_at "mem_")).1 hne (N9 (_, listOf _ _) (by walk_at "mem_")) rfl
  all_goals (rename _ = false => q; exact absurd q (by decide +kernel))
set_option maxHeartbeats 2000000 in
theorem back_mul {w : World} {H : Heap} {s : Shared} {sk : Addr} {vs : List Value} {n : Nat} {tt : Tok} {ds res : List Dat}
   (B : Base (hd2.heap_39 w.params) H s.heap) (hC : CodeHd H 83 81) (hsk : s.heap.get? sk = some (listOf vs.toArray n)) (hf : H.get? sk = none) (hz : vs.length ≤ 100000) (DA : DatAll [] vs ds) (hF : Folds (ds ++ [Dat.str (Str.ofString "mul")]) res) :
   Does PySem.Challenge.pw_ik0002_02 w 5 (.ref 105) [.ref sk, Value.str (Str.ofString "mul") tt] s (fun v h' => ∃ vals, DatAll [] vals res ∧ StackPost vals s.heap v h') := by
  have mu : ∀ q ∈ [(sk, listOf vs.toArray n)], s.heap.get? q.1 = some q.2 ∧ H.get? q.1 = none := by
    intro q hq
    rcases List.mem_singleton.mp hq with rfl
    exact ⟨hsk, hf⟩
  intro R hR'
  have hR := fun vals (hD : DatAll [] vals res) v h' tk' hp => hR' v h' tk' ⟨vals, hD, hp⟩
  refine' enter (muts := [(sk, listOf vs.toArray n)]) B mu ?ho ?hcd ?hroom ?hbind ?hloc ?hcell ?hco ?hgen ?hk ?h
  case ho => k_is
  case hcd => k_is
  case hroom => decide
  case hbind => exact BindsTo.of_eq rfl
  case hloc => exact locs rfl
  case hcell => decide
  case hco => rfl
  case hgen => rfl
  case hk => rfl
  intro g L h₁ p loose mean mg mb X T F N hlt lift hL up
  have hCg := hC.keeps up
  k_steps
  · rename News _ _ _ _ => N9
    rename Fr _ _ _ _ => F9
    have c0 := N9 _ (.head _)
    have c1 := N9 _ (.tail _ (.tail _ (.head _)))
    refine bk_loop (sk := sk) (s := s) (word := .str (Str.ofString "mul") tt) (vs := vs) (n := n) (res := res) (k0 := (ds ++ [Dat.str (Str.ofString "mul")]).length) X T hCg ?init ?fin _ _ _ _ _ _ _ _ _ _ _ _ _ _ _ _ _ _ _ _ _ (by k_is)
    case init =>
      refine ⟨_, vs ++ [Value.str (Str.ofString "mul") tt], _, none, none, none, ⟨bkInit F9 (fun y => rfl), ?_, _, news2 c0 c1⟩, datAll_app (.cons (.str _ _) .nil) DA, hF, rfl, ?_, rfl⟩
      · exact Ne.symm (Nat.ne_of_lt (by omega))
      · have := DA.length
        rw [List.length_append, ← this]
        exact Nat.succ_le_succ hz
    clear N9 F9 c0 c1
    rintro s2 D vals od o1 o2 ⟨F5, hne, n5, N5⟩ D1 hs2
    have hne' := neN hne
    show wpAny _ _ (execs _ _) _ _ _
    k_steps
    rename News _ _ _ _ => N9
    rename Fr _ _ _ _ => F9
    exact stackFin hsk (hR _ D1) lift F9 (by rw [hs2]) (N9 (_, listOf _ _) (by walk_at "mem_")).1 hne (N9 (_, listOf _ _) (by walk_at "mem_")) rfl
  all_goals (rename _ = false => q; exact absurd q (by decide +kernel))
set_option maxHeartbeats 2000000 in
theorem back_fig {w : World} {H : Heap} {s : Shared} {sk : Addr} {vs : List Value} {n : Nat} {tt : Tok} {ds res : List Dat} {c : Str} {d : Int}
   (B : Base (hd2.heap_39 w.params) H s.heap) (hC : CodeHd H 83 81) (hsk : s.heap.get? sk = some (listOf vs.toArray n)) (hf : H.get? sk = none) (hz : vs.length ≤ 100000) (DA : DatAll [] vs ds) (hin : (Builtin.Str.occurrences (Str.ofString "0123456789") c 0 (Str.ofString "0123456789").length 1).isEmpty = false) (hd : PySem.intText? c = some d) (hcl : c.length ≤ 640) (hF : Folds (ds ++ [Dat.int d]) res) :
   Does PySem.Challenge.pw_ik0002_02 w 5 (.ref 105) [.ref sk, Value.str c tt] s (fun v h' => ∃ vals, DatAll [] vals res ∧ StackPost vals s.heap v h') := by
  have mu : ∀ q ∈ [(sk, listOf vs.toArray n)], s.heap.get? q.1 = some q.2 ∧ H.get? q.1 = none := by
    intro q hq
    rcases List.mem_singleton.mp hq with rfl
    exact ⟨hsk, hf⟩
  intro R hR'
  have hR := fun vals (hD : DatAll [] vals res) v h' tk' hp => hR' v h' tk' ⟨vals, hD, hp⟩
  refine' enter (muts := [(sk, listOf vs.toArray n)]) B mu ?ho ?hcd ?hroom ?hbind ?hloc ?hcell ?hco ?hgen ?hk ?h
  case ho => k_is
  case hcd => k_is
  case hroom => decide
  case hbind => exact BindsTo.of_eq rfl
  case hloc => exact locs rfl
  case hcell => decide
  case hco => rfl
  case hgen => rfl
  case hk => rfl
  intro g L h₁ p loose mean mg mb X T F N hlt lift hL up
  have hCg := hC.keeps up
  k_steps
  · rename News _ _ _ _ => N9
    rename Fr _ _ _ _ => F9
    have c0 := N9 _ (.head _)
    have c1 := N9 _ (.tail _ (.tail _ (.head _)))
    refine bk_loop (sk := sk) (s := s) (word := .str c tt) (vs := vs) (n := n) (res := res) (k0 := (ds ++ [Dat.int d]).length) X T hCg ?init ?fin _ _ _ _ _ _ _ _ _ _ _ _ _ _ _ _ _ _ _ _ _ (by k_is)
    case init =>
      refine ⟨_, vs ++ [Value.int d _], _, none, none, none, ⟨bkInit F9 (fun y => rfl), ?_, _, news2 c0 c1⟩, datAll_app (.cons (.int _ _) .nil) DA, hF, rfl, ?_, rfl⟩
      · exact Ne.symm (Nat.ne_of_lt (by omega))
      · have := DA.length
        rw [List.length_append, ← this]
        exact Nat.succ_le_succ hz
    clear N9 F9 c0 c1
    rintro s2 D vals od o1 o2 ⟨F5, hne, n5, N5⟩ D1 hs2
    have hne' := neN hne
    show wpAny _ _ (execs _ _) _ _ _
    k_steps
    rename News _ _ _ _ => N9
    rename Fr _ _ _ _ => F9
    exact stackFin hsk (hR _ D1) lift F9 (by rw [hs2]) (N9 (_, listOf _ _) (by walk_at "mem_")).1 hne (N9 (_, listOf _ _) (by walk_at "mem_")) rfl
end Mine
end
section
open PySem PySem.W PyProof.Rows PySem.Calls
namespace Mine
theorem datAll_get {news : List (Addr × Obj)} {vs : List Value} {ws : List Str} (D : DatAll news vs (ws.map Dat.str)) {k : Nat} {v : Value} (h : vs[k]? = some v) : ∃ w t, ws[k]? = some w ∧ v = .str w t := by
  have hk : k < (ws.map Dat.str).length := by
    rw [← D.length]; exact (List.getElem?_eq_some_iff.mp h).1
  obtain ⟨v', e, i⟩ := D.get hk
  rw [h] at e
  cases e
  rw [List.getElem_map] at i
  cases i
  rw [List.length_map] at hk
  exact ⟨_, _, List.getElem?_eq_getElem hk, rfl⟩
theorem red_step {w : World} {H : Heap} {s : Shared} {sq si : Addr} {els : List Value} {n n0 : Nat} {l : List Turn} (hl : okT l)
   (B : Base (hd2.heap_39 w.params) H s.heap) (hC : CodeHd H 83 81) (hsq : s.heap.get? sq = some (listOf els.toArray n)) (hfq : H.get? sq = none) (hsi : s.heap.get? si = some (listOf #[] n0)) (hfi : H.get? si = none) (hz : els.length ≤ 100000)
   (hfn : FnAt 98 s.heap) (hne : si ≠ 64) (hneq : si ≠ sq) (D : DatAll [] els ((row0 l).map Dat.str)) :
   Does PySem.Challenge.pw_ik0002_02 w 4 (.ref 72) [.ref 98, .ref sq, .ref si] s (fun v h' => Stays [] s.heap h' ∧ ∃ a t na, v = .ref a ∧ h'.get? a = some (listOf #[Value.int (totT 3 l) t] na) ∧ H.get? a = none) := by
  refine (reduce_does (v0 := []) (fun k vals => DatAll [] vals ((stkT l k).map Dat.int)) B hC hsq hfq hsi hfi hz hfn hne hneq .nil ?_).mono ?_
  · intro k a vals na el s' hel hq ha B' hfa
    obtain ⟨wd, t, hw, rfl⟩ := datAll_get D hel
    rcases row_at hw with ⟨rfl, rfl⟩ | ⟨i, x, rfl, hx, rfl⟩ | ⟨i, x, rfl, hx, rfl⟩
    · cases hq
      refine (step_fig (vs := []) B' hC ha hfa (Nat.zero_le _) fig3_in.1 fig3_in.2.1 fig3_in.2.2).mono ?_
      rintro v' h' ⟨t, p⟩
      exact ⟨_, .cons (.int _ _) .nil, p⟩
    · have hx' := hl x (List.mem_of_getElem? hx)
      rw [stk_odd] at hq
      obtain ⟨tv, rfl⟩ := datSufI hq
      obtain ⟨f1, f2, f3⟩ := figS_in x.1 hx'.1
      refine (step_fig (vs := [.int (totT 3 (l.take i)) tv]) B' hC ha hfa (by show 1 ≤ 100000; decide) f1 f2 f3).mono ?_
      rintro v' h' ⟨t, p⟩
      refine ⟨_, ?_, p⟩
      rw [show 2 * i + 1 + 1 = 2 * i + 2 from rfl, stk_even hx]
      exact .cons (.int _ _) (.cons (.int _ _) .nil)
    · have hx' := hl x (List.mem_of_getElem? hx)
      rw [stk_even hx] at hq
      obtain ⟨ta, tb, rfl⟩ : ∃ ta tb, vals = [.int (totT 3 (l.take i)) ta, .int x.1 tb] := by
        cases hq with
        | cons p q => cases p; obtain ⟨tb, rfl⟩ := datSufI q; exact ⟨_, _, rfl⟩
      have fin : ∀ {v : Int} {v' h'}, opf (deedS x.2.1) (totT 3 (l.take i)) x.1 = v → (∃ t, StackPost ([] ++ [Value.int v t]) s'.heap v' h') → ∃ vals', DatAll [] vals' ((stkT l (2 * i + 2 + 1)).map Dat.int) ∧ StackPost vals' s'.heap v' h' := by
        rintro v v' h' rfl ⟨t, p⟩
        refine ⟨_, ?_, p⟩
        rw [stk_next hx]
        exact .cons (.int _ _) .nil
      obtain ⟨d, o, way⟩ := x
      have ho : o < 3 := hx'.2
      match o, ho with
      | 0, _ => exact (step_add (vs := []) B' hC ha hfa (Nat.zero_le _)).mono fun v' h' p => fin (by rfl) p
      | 1, _ => exact (step_sub (vs := []) B' hC ha hfa (Nat.zero_le _)).mono fun v' h' p => fin (by rfl) p
      | 2, _ => exact (step_mul (vs := []) B' hC ha hfa (Nat.zero_le _) (mul_fig _ _ (by omega) (by have := hx'.1; simp only at this ⊢; omega))).mono fun v' h' p => fin (by rfl) p
  · rintro v h' ⟨st, a, vals, na, rfl, ha, hq, hfa⟩
    refine ⟨st, ?_⟩
    have e : els.length = (row0 l).length := by have := D.length; rwa [List.length_map] at this
    rw [e, stk_end] at hq
    obtain ⟨t, rfl⟩ := datSufI hq
    exact ⟨a, t, na, rfl, ha, hfa⟩
theorem red_back {w : World} {H : Heap} {s : Shared} {sq si : Addr} {els : List Value} {n n0 : Nat} {l : List Turn} (hl : okT l)
   (B : Base (hd2.heap_39 w.params) H s.heap) (hC : CodeHd H 83 81) (hsq : s.heap.get? sq = some (listOf els.toArray n)) (hfq : H.get? sq = none) (hsi : s.heap.get? si = some (listOf #[] n0)) (hfi : H.get? si = none) (hz : els.length ≤ 100000) (hzl : l.length ≤ 40000)
   (hfn : FnAt 105 s.heap) (hne : si ≠ 64) (hneq : si ≠ sq) (D : DatAll [] els ((row0 l).reverse.map Dat.str)) :
   Does PySem.Challenge.pw_ik0002_02 w 4 (.ref 72) [.ref 105, .ref sq, .ref si] s (fun v h' => Stays [] s.heap h' ∧ ∃ a t na, v = .ref a ∧ h'.get? a = some (listOf #[Value.int (totT 3 l) t] na) ∧ H.get? a = none) := by
  have lenB : ∀ k, (bckT l k).length ≤ 100000 := by
    intro k
    unfold bckT
    split
    · refine Nat.le_trans (List.length_take_le _ _) ?_
      omega
    · show 1 ≤ 100000
      decide
  refine (reduce_does (v0 := []) (fun k vals => DatAll [] vals (bckT l k)) B hC hsq hfq hsi hfi hz hfn hne hneq ?_ ?_).mono ?_
  · rw [show bckT l 0 = [] from (if_pos (Nat.zero_le _)).trans List.take_zero]
    exact .nil
  · intro k a vals na el s' hel hq ha B' hfa
    obtain ⟨wd, t, hw, rfl⟩ := datAll_get D hel
    have hv : vals.length ≤ 100000 := by rw [hq.length]; exact lenB k
    have fin : ∀ {v' h'}, (∃ vals', DatAll [] vals' (bckT l (k + 1)) ∧ StackPost vals' s'.heap v' h') → ∃ vals', DatAll [] vals' (bckT l (k + 1)) ∧ StackPost vals' s'.heap v' h' := fun p => p
    rcases folds_at hl hw with ⟨o, ho, rfl, hF⟩ | ⟨d, hd, hF⟩
    · match o, ho with
      | 0, _ => exact (back_add B' hC ha hfa hv hq hF).mono fun v' h' p => p
      | 1, _ => exact (back_sub B' hC ha hfa hv hq hF).mono fun v' h' p => p
      | 2, _ => exact (back_mul B' hC ha hfa hv hq hF).mono fun v' h' p => p
    · rcases hd with ⟨rfl, hd⟩ | ⟨rfl, rfl⟩
      · obtain ⟨f1, f2, f3⟩ := figS_in d hd
        exact (back_fig B' hC ha hfa hv hq f1 f2 f3 hF).mono fun v' h' p => p
      · exact (back_fig B' hC ha hfa hv hq fig3_in.1 fig3_in.2.1 fig3_in.2.2 hF).mono fun v' h' p => p
  · rintro v h' ⟨st, a, vals, na, rfl, ha, hq, hfa⟩
    refine ⟨st, ?_⟩
    have e : els.length = 2 * l.length + 1 := by
      have := D.length
      rw [List.length_map, List.length_reverse] at this
      have e2 : (row0 l).length = (rowT l).length + 1 := rfl
      rw [rowT_len] at e2
      omega
    rw [e, bck_end] at hq
    obtain ⟨t, rfl⟩ := datSufI hq
    exact ⟨a, t, na, rfl, ha, hfa⟩
end Mine
end
section
open PySem PySem.W PyProof.Rows PySem.Calls
namespace Mine
noncomputable def StrmIs (K : Frag) (fa : Addr) (w : World) (cl sg st sd rd cr : Addr) (oc fo sdo ro ocr : Obj) : Prop :=
  ∀ h : Heap, h.get? cl = some oc → h.get? st = some fo → h.get? sd = some sdo → h.get? rd = some ro → h.get? cr = some ocr → StrmFix K fa w h cl sg st sd rd
noncomputable def RdCode (o : Obj) : Prop := ∃ vs t, o.data = .fields vs ∧ vs[1]? = some (.str (Str.ofString "_law_stream.<locals>.<lambda>") t)
theorem RdCode.rec' {o : Obj} {c : Addr} {h : Heap} (r : RdCode o) (e : h.get? c = some o) : h.CodeRec (.ref c) (Str.ofString "_law_stream.<locals>.<lambda>") := let ⟨vs, t, a, b⟩ := r; ⟨c, o, vs, t, rfl, e, a, b⟩
end Mine
end
section
open PySem PySem.W PyProof.Rows PySem.Calls
set_option maxRecDepth 100000
set_option maxHeartbeats 4000000
namespace Mine
theorem rows15 : True := by
  k_with_none
  trivial
theorem fillKStr2 : (fun (_ : OpenLaw) (_ : Params → Frag) => True) PySem.Challenge.rw_ik0002_02 hd2.heap_39 := by
  k_fill
  trivial
theorem stream1 {w : World} {H : Heap} {s : Shared} {tx : Str} {tt : Tok}
   (B : Base (hd2.heap_39 w.params) H s.heap) (hC : CodeHd H 83 81) (h81 : s.heap.get? 81 = some (tabObj #[])) (hf : H.get? 81 = none) (htx : tx.length ≤ 100000) :
   Does PySem.Challenge.pw_ik0002_02 w 9 (.ref 84) [.str tx tt] s (fun v h' => ∃ cl sg st sd rd its n c1 c2 oc fo sdo ro oc2, v = .ref st ∧ StrmIs (hd2.heap_39 w.params) 84 w cl sg st sd rd c2 oc fo sdo ro oc2 ∧ RdCode oc2 ∧
       h'.get? cl = some oc ∧ h'.get? st = some fo ∧ h'.get? sd = some sdo ∧ h'.get? rd = some ro ∧ h'.get? c2 = some oc2 ∧ h'.get? sg = some (listOf its.toArray n) ∧ DatAll [] its ((signs tx).map Dat.str) ∧
       h'.get? 81 = some (tabObj #[rawInt 89, rawInt 13, .ref c1, rawInt 90, rawInt 18, .ref c2]) ∧ Stays [81] s.heap h' ∧ [cl, sg, st, sd, rd].Nodup ∧ ∀ x ∈ [cl, sg, st, sd, rd, c2], s.heap.get? x = none ∧ x ≠ 81) := by
  intro R hR
  refine' enterC (muts := [(81, tabObj #[])]) B ?mu ?ho ?hcd ?hroom ?hbind ?hkind ?hnd ?hco ?hgen ?hk ?h
  case ho => k_is
  case mu => intro q hq; rcases List.mem_singleton.mp hq with rfl; exact ⟨h81, hf⟩
  case hcd => k_is
  case hroom => decide
  case hbind => exact BindsTo.of_eq rfl
  case hkind => rfl
  case hnd => decide
  case hco => rfl
  case hgen => rfl
  case hk => rfl
  intro g L h₁ tk cells p loose mean mg mb X T F N Y hlt lift hL up
  have hCg := hC.keeps up
  have hO := ltN (hlt _ (.head _))
  dsimp only at hO
  k_cells Y
  simp only [List.cons_append, List.nil_append] at N
  walk1
  walk1
  walk1
  walk1
  walk1
  all_goals (try (k_steps; done))
  rename NewPlain _ _ _ _ => npX
  have n1 := neN (npX.2 _ (.head _))
  have n2 := neN (npX.2 _ (.tail _ (.head _)))
  dsimp only at n1 n2
  obtain ⟨nX, NX⟩ := made_enters npX (by assumption) (by assumption) (by assumption)
  refine' storeX_C ?F1 ?N1 ?c1 ?U1 ?d1 ?r1 rfl rfl
  case F1 => assumption
  case N1 => exact NX
  case c1 => rfl
  case d1 => assumption
  case U1 => k_updF
  case r1 =>
  clear NX
  intro h2 o2 F2 N2 d2
  try dsimp only at N2
  k_steps
  rename News _ _ _ _ => N9
  rename Fr _ _ _ _ => F9
  have r0 := N9 _ (.head _)
  have r1 := N9 _ (.tail _ (.head _))
  have r2 := N9 _ (.tail _ (.tail _ (.head _)))
  have r4 := N9 _ (.tail _ (.tail _ (.tail _ (.tail _ (.head _)))))
  have r5 := N9 _ (.tail _ (.tail _ (.tail _ (.tail _ (.tail _ (.head _))))))
  have r6 := N9 _ (.tail _ (.tail _ (.tail _ (.tail _ (.tail _ (.tail _ (.head _)))))))
  refine setAttr_fn r2.1 ?_
  intro sd h3 k tk3 e1 e2 e3 st3
  have hL9 : L < _ := F9.ns.lt
  have F10 := (after (news' := []) F9 N9 (S := [_]) (fun b o e hb => st3 b o (fun q => hb (by rw [q]; exact .head _)) e) (fun a ha => by rw [List.mem_singleton.mp ha]; exact r2.2) (fun q hq => nomatch hq)).1
  have z0 := ltN (Nat.lt_of_lt_of_le (Heap.lt_size r0.1) e3)
  have z2 := ltN (Nat.lt_of_lt_of_le (Heap.lt_size r2.1) e3)
  have z4 := ltN (Nat.lt_of_lt_of_le (Heap.lt_size r4.1) e3)
  have z5 := ltN (Nat.lt_of_lt_of_le (Heap.lt_size r5.1) e3)
  have z6 := ltN (Nat.lt_of_lt_of_le (Heap.lt_size r6.1) e3)
  have z7 := Nat.le_trans (Nat.le_of_lt hL9) e3
  dsimp only at z0 z2 z4 z5 z6
  clear N9 F9
  k_steps
  refine fin hR lift F10 rfl fun stays => ?_
  have q0 := neN (r0.2.1)
  have q1 := neN (r1.2.1)
  have q2 := neN (r2.2.1)
  have q4 := neN (r4.2.1)
  dsimp only at q0 q1 q2 q4
  have fresh : ∀ x, x ≠ 81 → g.get? x = none → s.heap.get? x = none ∧ x ≠ 81 := fun x hx e => by
    refine ⟨?_, hx⟩
    cases q : s.heap.get? x with
    | none => rfl
    | some o => rw [lift x o q (fun hm => hx (List.mem_singleton.mp hm))] at e; cases e
  refine ⟨L + 1, _, _, sd, _, _, _, _, _, _, _, _, _, _, rfl, fun h a b c d e => ⟨⟨_, a, d2⟩, ⟨_, _, b⟩, ⟨_, _, c⟩, ?_⟩, ⟨_, _, by assumption, Eq.trans (by assumption) (congrArg (fun q => some (Value.str q _)) ?_)⟩, st3 _ _ (neN (by omega)) r5.1, e1, e2, st3 _ _ (neN (by omega)) r0.1, st3 _ _ (neN (by omega)) r1.1, st3 _ _ (neN (by omega)) r4.1, ?_, (st3 _ _ (neN (by omega)) r6.1), stays, ?_, ?_⟩
  · refine' rdObj_of ?k0 d ?k1
    case k0 => k_is
    case k1 => exact ⟨_, _, _, _, rfl, e, by assumption, by assumption⟩
  · show (Str.ofString "_law_stream" ++ Str.ofString ".<locals>.") ++ Str.ofString "<lambda>" = _
    decide +kernel
  · rename CarriedAll _ _ => hCA
    rw [List.filter_eq_self.mpr (fun _ _ => rfl)] at hCA
    exact datAll_carried hCA
  · simp only [List.nodup_cons, List.mem_cons, List.not_mem_nil, or_false, not_or, List.nodup_nil, and_true, not_false_eq_true]
    refine ⟨⟨?_, ?_, ?_, ?_⟩, ⟨?_, ?_, ?_⟩, ⟨?_, ?_⟩, ?_⟩ <;> exact neN (by omega)
  · intro x hx
    revert x
    refine all_cons ?_ (all_cons ?_ (all_cons ?_ (all_cons ?_ (all_cons ?_ (all_cons ?_ all_nil)))))
    · exact fresh _ (neN (by omega)) r5.2.2
    · exact fresh _ (neN (by omega)) r4.2.2
    · exact fresh _ (neN (by omega)) r2.2.2
    · exact ⟨Heap.get?_none_of_le (hL ▸ z7), neN (by omega)⟩
    · exact fresh _ (neN (by omega)) r0.2.2
    · exact fresh _ (neN (by omega)) r1.2.2
end Mine
end
section
open PySem PySem.W PyProof.Rows PySem.Calls
set_option maxRecDepth 100000
set_option maxHeartbeats 4000000
namespace Mine
theorem rows16 : True := by
  k_with_none
  trivial
theorem fillK22Str3 : (fun (_ : OpenLaw) (_ : Params → Frag) => True) PySem.Challenge.rw_ik0002_02 hd2.heap_39 := by
  k_fill
  trivial
theorem stream2 {w : World} {H : Heap} {s : Shared} {tx : Str} {tt : Tok} {c1 c2 : Addr}
   (B : Base (hd2.heap_39 w.params) H s.heap) (hC : CodeHd H 83 81) (h81 : s.heap.get? 81 = some (tabObj #[rawInt 89, rawInt 13, .ref c1, rawInt 90, rawInt 18, .ref c2])) (hf : H.get? 81 = none) (htx : tx.length ≤ 100000)
   {oc2 : Obj} (hc2 : s.heap.get? c2 = some oc2) (hr2 : RdCode oc2) :
   Does PySem.Challenge.pw_ik0002_02 w 9 (.ref 84) [.str tx tt] s (fun v h' => ∃ cl sg st sd rd its n oc fo sdo ro, v = .ref st ∧ StrmIs (hd2.heap_39 w.params) 84 w cl sg st sd rd c2 oc fo sdo ro oc2 ∧
       h'.get? cl = some oc ∧ h'.get? st = some fo ∧ h'.get? sd = some sdo ∧ h'.get? rd = some ro ∧ h'.get? sg = some (listOf its.toArray n) ∧ DatAll [] its ((signs tx).map Dat.str) ∧
       Stays [] s.heap h' ∧ [cl, sg, st, sd, rd].Nodup ∧ ∀ x ∈ [cl, sg, st, sd, rd], s.heap.get? x = none ∧ x ≠ 81) := by
  intro R hR
  refine' enterC (muts := [(81, tabObj #[rawInt 89, rawInt 13, .ref c1, rawInt 90, rawInt 18, .ref c2])]) B ?mu ?ho ?hcd ?hroom ?hbind ?hkind ?hnd ?hco ?hgen ?hk ?h
  case ho => k_is
  case mu => intro q hq; rcases List.mem_singleton.mp hq with rfl; exact ⟨h81, hf⟩
  case hcd => k_is
  case hroom => decide
  case hbind => exact BindsTo.of_eq rfl
  case hkind => rfl
  case hnd => decide
  case hco => rfl
  case hgen => rfl
  case hk => rfl
  intro g L h₁ tk cells p loose mean mg mb X T F N Y hlt lift hL up
  have hCg := hC.keeps up
  have hO := ltN (hlt _ (.head _))
  dsimp only at hO
  k_cells Y
  simp only [List.cons_append, List.nil_append] at N
  walk1
  walk1
  walk1
  walk1
  walk1
  all_goals (try (k_steps; done))
  rename NewPlain _ _ _ _ => npX
  have n1 := neN (npX.2 _ (.head _))
  have n2 := neN (npX.2 _ (.tail _ (.head _)))
  dsimp only at n1 n2
  obtain ⟨nX, NX⟩ := made_enters npX (by assumption) (by assumption) (by assumption)
  refine' storeX_C ?F1 ?N1 ?c1 ?U1 ?d1 ?r1 rfl rfl
  case F1 => assumption
  case N1 => exact NX
  case c1 => rfl
  case d1 => assumption
  case U1 => k_updF
  case r1 =>
  clear NX
  intro h2 o2 F2 N2 d2
  try dsimp only at N2
  k_steps
  rename News _ _ _ _ => N9
  rename Fr _ _ _ _ => F9
  have r0 := N9 _ (.head _)
  have r2 := N9 _ (.tail _ (.head _))
  have r4 := N9 _ (.tail _ (.tail _ (.head _)))
  have r5 := N9 _ (.tail _ (.tail _ (.tail _ (.head _))))
  have r6 := N9 _ (.tail _ (.tail _ (.tail _ (.tail _ (.head _)))))
  refine setAttr_fn r2.1 ?_
  intro sd h3 k tk3 e1 e2 e3 st3
  have hL9 : L < _ := F9.ns.lt
  have F10 := (after (news' := []) F9 N9 (S := [_]) (fun b o e hb => st3 b o (fun q => hb (by rw [q]; exact .head _)) e) (fun a ha => by rw [List.mem_singleton.mp ha]; exact r2.2) (fun q hq => nomatch hq)).1
  have z0 := ltN (Nat.lt_of_lt_of_le (Heap.lt_size r0.1) e3)
  have z2 := ltN (Nat.lt_of_lt_of_le (Heap.lt_size r2.1) e3)
  have z4 := ltN (Nat.lt_of_lt_of_le (Heap.lt_size r4.1) e3)
  have z5 := ltN (Nat.lt_of_lt_of_le (Heap.lt_size r5.1) e3)
  have z6 := ltN (Nat.lt_of_lt_of_le (Heap.lt_size r6.1) e3)
  have z7 := Nat.le_trans (Nat.le_of_lt hL9) e3
  dsimp only at z0 z2 z4 z5 z6
  clear N9 F9
  k_steps
  refine fin hR lift F10 rfl fun stays => ?_
  have q0 := neN (r0.2.1)
  have q2 := neN (r2.2.1)
  have q4 := neN (r4.2.1)
  dsimp only at q0 q2 q4
  have fresh : ∀ x, x ≠ 81 → g.get? x = none → s.heap.get? x = none ∧ x ≠ 81 := fun x hx e => by
    refine ⟨?_, hx⟩
    cases q : s.heap.get? x with
    | none => rfl
    | some o => rw [lift x o q (fun hm => hx (List.mem_singleton.mp hm))] at e; cases e
  refine ⟨L + 1, _, _, sd, _, _, _, _, _, _, _, rfl, fun h a b c d e => ⟨⟨_, a, d2⟩, ⟨_, _, b⟩, ⟨_, _, c⟩, ?_⟩, st3 _ _ (neN (by omega)) r5.1, e1, e2, st3 _ _ (neN (by omega)) r0.1, st3 _ _ (neN (by omega)) r4.1, ?_, stays.drop h81 (st3 _ _ (neN (by omega)) r6.1) (fun b hb hne => absurd (List.mem_singleton.mp hb) hne), ?_, ?_⟩
  · refine' rdObj_of ?k0 d ?k1
    case k0 => k_is
    case k1 =>
      refine cast (congrArg (h.CodeRec (.ref c2)) ?_) (hr2.rec' e)
      show _ = (Str.ofString "_law_stream" ++ Str.ofString ".<locals>.") ++ Str.ofString "<lambda>"
      decide +kernel
  · rename CarriedAll _ _ => hCA
    rw [List.filter_eq_self.mpr (fun _ _ => rfl)] at hCA
    exact datAll_carried hCA
  · simp only [List.nodup_cons, List.mem_cons, List.not_mem_nil, or_false, not_or, List.nodup_nil, and_true, not_false_eq_true]
    refine ⟨⟨?_, ?_, ?_, ?_⟩, ⟨?_, ?_, ?_⟩, ⟨?_, ?_⟩, ?_⟩ <;> exact neN (by omega)
  · intro x hx
    revert x
    refine all_cons ?_ (all_cons ?_ (all_cons ?_ (all_cons ?_ (all_cons ?_ all_nil))))
    · exact fresh _ (neN (by omega)) r5.2.2
    · exact fresh _ (neN (by omega)) r4.2.2
    · exact fresh _ (neN (by omega)) r2.2.2
    · exact ⟨Heap.get?_none_of_le (hL ▸ z7), neN (by omega)⟩
    · exact fresh _ (neN (by omega)) r0.2.2
end Mine
end
section
open PySem PySem.W PyProof.Rows PySem.Calls
set_option maxRecDepth 100000
set_option maxHeartbeats 4000000
namespace Mine
theorem rows17 : True := by
  k_with_none
  trivial
theorem fillK28Init2 : (fun (_ : OpenLaw) (_ : Params → Frag) => True) PySem.Challenge.rw_ik0002_02 hd2.heap_39 := by
  k_fill
  trivial
theorem init_does {w : World} {H : Heap} {s : Shared} {lx dx st : Addr}
   (B : Base (hd2.heap_39 w.params) H s.heap) (hlx : s.heap.get? lx = some (instObj 52 dx)) (hdx : s.heap.get? dx = some emptyDict)
   (frl : H.get? lx = none) (frd : H.get? dx = none) (nd : lx ≠ dx) :
   Does PySem.Challenge.pw_ik0002_02 w 9 (.ref 28) [.ref lx, .ref st] s (fun v h' => v = .none ∧ Stays [dx] s.heap h' ∧ ∃ pb np, LexDict w h' dx 1 st pb ∧ h'.get? pb = some (listOf #[] np) ∧ s.heap.get? pb = none) := by
  have f1' := neN nd
  have mu : ∀ q ∈ [(lx, instObj 52 dx), (dx, emptyDict)], s.heap.get? q.1 = some q.2 ∧ H.get? q.1 = none := by
    refine all_cons ?_ (all_cons ?_ all_nil)
    · exact ⟨hlx, frl⟩
    · exact ⟨hdx, frd⟩
  intro R hR
  refine' enter (muts := [(lx, instObj 52 dx), (dx, emptyDict)]) B mu ?ho ?hcd ?hroom ?hbind ?hloc ?hcell ?hco ?hgen ?hk ?h
  case ho => k_is
  case hcd => k_is
  case hroom => decide
  case hbind => exact BindsTo.of_eq rfl
  case hloc => exact locs rfl
  case hcell => decide
  case hco => rfl
  case hgen => rfl
  case hk => rfl
  intro g L h₁ p loose mean mg mb X T F N hlt lift hL up
  k_steps
  rename Fr _ _ _ _ => F9
  rename News _ _ _ _ => N9
  have r0 := N9 _ (.head _)
  refine fin (S := [lx, dx]) hR (fun b o e hb => lift b o e fun hm => hb ?_) F9 rfl (fun hst => ⟨rfl, hst.drop hlx (N9 _ (.tail _ (.head _))).1 ?_, _, _, ⟨_, _, _, _, _, _, (N9 _ (.tail _ (.tail _ (.head _)))).1⟩, r0.1, ?_⟩)
  · simp only [List.map_cons, List.map_nil, List.mem_cons, List.not_mem_nil, or_false] at hm ⊢
    rcases hm with h | h <;> simp [h]
  · intro b hb hne
    simp only [List.mem_cons, List.not_mem_nil, or_false] at hb ⊢
    rcases hb with h | h
    · exact absurd h hne
    · exact h
  · rename _ < _ ∧ _ => l9
    cases q : s.heap.get? _ with
    | none => rfl
    | some o =>
      have := lift _ o q (fun hm => by
        simp only [List.map_cons, List.map_nil, List.mem_cons, List.not_mem_nil, or_false] at hm
        rcases hm with h | h
        · exact absurd h (Nat.ne_of_gt l9.1)
        · exact absurd h (Nat.ne_of_gt l9.2))
      rw [r0.2.2] at this; cases this
theorem lexer_made {w : World} {A : Around} {Q E : Value → Shared → Prop} {s : Shared} {g : Heap} {L st : Addr} {m : Str → Option Value} {news : List (Addr × Obj)} {p : Program} {loose : List Str} {mean : ExcName → Option Value} {mg mb : Str → Option Value}
   (X : (hd2.heap_39 w.params).In g) (T : Top p loose mean mg mb g) (F : Fr g L s.heap m) (N : News g L s.heap news)
   (h : ∀ lx dx pb np k1 k2 k3 k4 t t3 h' tk', Fr g L h' m → News g L h' ((lx, instObj 52 dx) :: (dx, dictOf (lexDict w k1 k2 k3 k4 t t3 1 st pb) 4) :: (pb, listOf #[] np) :: news) → (∀ q ∈ news, q.1 ≠ lx ∧ q.1 ≠ dx ∧ q.1 ≠ pb) → [lx, dx, pb].Nodup → Q (.ref lx) { s with heap := h', toks := tk' })
   (hh : A.handled = none := by exact rfl) (hd : A.depth ≤ (lvl 8).depth := by exact Nat.le_of_ble_eq_true rfl) (hu : A.units ≤ (lvl 8).units := by exact Nat.le_of_ble_eq_true rfl) :
   wpAny (model PySem.Challenge.pw_ik0002_02 w) A (call (.ref 52) [.ref st]) Q E s := by
  refine wpAny_call (codeAny_lvl 8 ?_ hh hd hu)
  obtain ⟨hh0, gg, dd, tt, os⟩ := s
  refine make_K (fI := 28) (K := hd2.heap_39 w.params) F N (X.keeps F.keep) ?_ ?_ ?_ ?_
  · kernel_rfl
  · kernel_rfl
  · kernel_rfl
  intro x dx h1 F1 N1 l1 l2
  have q0 := N1 _ (.head _)
  have q1 := N1 _ (.tail _ (.head _))
  refine (init_does (H := g) ⟨X, ⟨_, _, _, _, _, T⟩, fun b o e => F1.keep _ _ e⟩ q0.1 q1.1 q0.2.2 q1.2.2 (Nat.ne_of_gt l2)).code rfl (Nat.le_of_ble_eq_true rfl) (Nat.le_of_ble_eq_true rfl) ?_
  rintro v h' tk' ⟨rfl, hst, pb, np, ⟨k1, k2, k3, k4, t, t3, e3⟩, e4, e5⟩
  have hdx : dx ≠ pb := fun e => by rw [← e, q1.1] at e5; cases e5
  have hx : x ≠ pb := fun e => by rw [← e, q0.1] at e5; cases e5
  have hLp : pb ≠ L := fun e => by
    obtain ⟨o, es, ep, eo, _⟩ := F1.ns
    rw [e, eo] at e5; cases e5
  have hgp : g.get? pb = none := by
    cases e : g.get? pb with
    | none => rfl
    | some o => rw [F1.keep _ _ e] at e5; cases e5
  obtain ⟨F', N'⟩ := after (news' := (x, instObj 52 dx) :: (dx, dictOf (lexDict w k1 k2 k3 k4 t t3 1 st pb) 4) :: (pb, listOf #[] np) :: news) F1 N1 hst (fun b hb => by
      rw [List.mem_singleton.mp hb]; exact q1.2) (fun q hq => by
      rcases List.mem_cons.mp hq with rfl | hq
      · exact .inl ⟨.head _, by rw [List.mem_singleton]; exact Nat.ne_of_gt l2⟩
      rcases List.mem_cons.mp hq with rfl | hq
      · exact .inr ⟨e3, q1.2⟩
      rcases List.mem_cons.mp hq with rfl | hq
      · exact .inr ⟨e4, hLp, hgp⟩
      · exact .inl ⟨.tail _ (.tail _ hq), by rw [List.mem_singleton]; exact Nat.ne_of_lt (l1 _ hq)⟩)
  refine ⟨rfl, h x dx pb np k1 k2 k3 k4 t t3 h' tk' F' N' (fun q hq => ⟨Nat.ne_of_lt (Nat.lt_trans (l1 _ hq) l2), Nat.ne_of_lt (l1 _ hq), fun e => ?_⟩) ?_⟩
  · have := (N1 q (.tail _ (.tail _ hq))).1
    rw [e, e5] at this; cases this
  · simp only [List.nodup_cons, List.mem_cons, List.not_mem_nil, or_false, not_or, List.nodup_nil, and_true, not_false_eq_true]
    exact ⟨⟨Nat.ne_of_gt l2, hx⟩, hdx⟩
end Mine
end
section
open PySem PySem.W PyProof.Rows PySem.Calls
set_option maxRecDepth 100000
namespace Mine
theorem new_apart {g : Heap} {L : Addr} {s : Shared} {m : Str → Option Value} {news : List (Addr × Obj)} (F : Fr g L s.heap m) (N : News g L s.heap news) {x : Addr} (e : s.heap.get? x = none) :
   x ≠ L ∧ g.get? x = none ∧ ∀ q ∈ news, q.1 ≠ x := by
  refine ⟨fun h => ?_, ?_, fun q hq h => ?_⟩
  · obtain ⟨o, es, ep, eo, _⟩ := F.ns
    rw [h, eo] at e; cases e
  · cases q : g.get? x with
    | none => rfl
    | some o => rw [F.keep _ _ q] at e; cases e
  · have := (N q hq).1
    rw [h, e] at this; cases this
theorem tab_apart {o : Obj} {p : Array Value} {cls : Value} {xs : Array Value} {n : Nat} : tabObj p ≠ listOf xs n := fun h => by cases congrArg Obj.data h
section
variable {w : World} {A : Around} {Q E : Value → Shared → Prop} {s : Shared} {g : Heap} {L : Addr} {m : Str → Option Value} {news : List (Addr × Obj)} {p : Program} {loose : List Str} {mean : ExcName → Option Value} {mg mb : Str → Option Value}
theorem call_stream1 {tx : Str} {tt : Tok} (X : (hd2.heap_39 w.params).In g) (T : Top p loose mean mg mb g) (F : Fr g L s.heap m) (N : News g L s.heap news) (hC : CodeHd g 83 81) (m81 : (81, tabObj #[]) ∈ news) (htx : tx.length ≤ 100000)
   (keep : List (Addr × Obj)) (hk : ∀ q ∈ keep, q ∈ news ∧ q.1 ≠ 81)
   (h : ∀ cl sg st sd rd its n c1 c2 oc fo sdo ro oc2 h' tk', StrmIs (hd2.heap_39 w.params) 84 w cl sg st sd rd c2 oc fo sdo ro oc2 → RdCode oc2 → DatAll [] its ((signs tx).map Dat.str) → [cl, sg, st, sd, rd].Nodup →
     (∀ q ∈ news, q.1 ∉ [cl, sg, st, sd, rd, c2]) → Fr g L h' m →
     News g L h' ((sg, listOf its.toArray n) :: (cl, oc) :: (st, fo) :: (sd, sdo) :: (rd, ro) :: (c2, oc2) :: (81, tabObj #[rawInt 89, rawInt 13, .ref c1, rawInt 90, rawInt 18, .ref c2]) :: keep) → Q (.ref st) { s with heap := h', toks := tk' })
   (hh : A.handled = none := by exact rfl) (hd : A.depth ≤ (lvl 9).depth := by exact Nat.le_of_ble_eq_true rfl) (hu : A.units ≤ (lvl 9).units := by exact Nat.le_of_ble_eq_true rfl) :
   wpAny (model PySem.Challenge.pw_ik0002_02 w) A (call (.ref 84) [.str tx tt]) Q E s := by
  have q81 := N _ m81
  refine (stream1 (H := g) ⟨X, ⟨_, _, _, _, _, T⟩, fun b o e => F.keep _ _ e⟩ hC q81.1 q81.2.2 htx).call (fun v h' tk' hp => ?_) hh hd hu
  obtain ⟨cl, sg, st, sd, rd, its, n, c1, c2, oc, fo, sdo, ro, oc2, rfl, hS, hR, e1, e2, e3, e4, e5, e6, D, e7, stays, nd, fr⟩ := hp
  have ap := fun x hx => new_apart F N (fr x hx).1
  obtain ⟨F', N'⟩ := after (S := [81]) (news' := (sg, listOf its.toArray n) :: (cl, oc) :: (st, fo) :: (sd, sdo) :: (rd, ro) :: (c2, oc2) :: (81, tabObj #[rawInt 89, rawInt 13, .ref c1, rawInt 90, rawInt 18, .ref c2]) :: keep) F N stays
    (fun b hb => by rw [List.mem_singleton.mp hb]; exact q81.2) (fun q hq => by
      have get : ∀ x o, h'.get? x = some o → x ∈ [cl, sg, st, sd, rd, c2] → h'.get? x = some o ∧ x ≠ L ∧ g.get? x = none := fun x o e hx => ⟨e, (ap x hx).1, (ap x hx).2.1⟩
      rcases List.mem_cons.mp hq with rfl | hq
      · exact .inr (get _ _ e6 (by simp))
      rcases List.mem_cons.mp hq with rfl | hq
      · exact .inr (get _ _ e1 (by simp))
      rcases List.mem_cons.mp hq with rfl | hq
      · exact .inr (get _ _ e2 (by simp))
      rcases List.mem_cons.mp hq with rfl | hq
      · exact .inr (get _ _ e3 (by simp))
      rcases List.mem_cons.mp hq with rfl | hq
      · exact .inr (get _ _ e4 (by simp))
      rcases List.mem_cons.mp hq with rfl | hq
      · exact .inr (get _ _ e5 (by simp))
      rcases List.mem_cons.mp hq with rfl | hq
      · exact .inr ⟨e7, q81.2⟩
      · exact .inl ⟨(hk q hq).1, fun hm => (hk q hq).2 (List.mem_singleton.mp hm)⟩)
  exact h cl sg st sd rd its n c1 c2 oc fo sdo ro oc2 h' tk' hS hR D nd (fun q hq hm => (ap q.1 hm).2.2 q hq rfl) F' N'
theorem call_stream2 {tx : Str} {tt : Tok} {c1 c2 : Addr} {oc2 : Obj} (X : (hd2.heap_39 w.params).In g) (T : Top p loose mean mg mb g) (F : Fr g L s.heap m) (N : News g L s.heap news) (hC : CodeHd g 83 81) (htx : tx.length ≤ 100000)
   (m81 : (81, tabObj #[rawInt 89, rawInt 13, .ref c1, rawInt 90, rawInt 18, .ref c2]) ∈ news) (m2 : (c2, oc2) ∈ news) (hR : RdCode oc2)
   (h : ∀ cl sg st sd rd its n oc fo sdo ro h' tk', StrmIs (hd2.heap_39 w.params) 84 w cl sg st sd rd c2 oc fo sdo ro oc2 → DatAll [] its ((signs tx).map Dat.str) → [cl, sg, st, sd, rd].Nodup →
     (∀ q ∈ news, q.1 ∉ [cl, sg, st, sd, rd]) → Fr g L h' m →
     News g L h' ((sg, listOf its.toArray n) :: (cl, oc) :: (st, fo) :: (sd, sdo) :: (rd, ro) :: news) → Q (.ref st) { s with heap := h', toks := tk' })
   (hh : A.handled = none := by exact rfl) (hd : A.depth ≤ (lvl 9).depth := by exact Nat.le_of_ble_eq_true rfl) (hu : A.units ≤ (lvl 9).units := by exact Nat.le_of_ble_eq_true rfl) :
   wpAny (model PySem.Challenge.pw_ik0002_02 w) A (call (.ref 84) [.str tx tt]) Q E s := by
  have q81 := N _ m81
  refine (stream2 (H := g) ⟨X, ⟨_, _, _, _, _, T⟩, fun b o e => F.keep _ _ e⟩ hC q81.1 q81.2.2 htx (N _ m2).1 hR).call (fun v h' tk' hp => ?_) hh hd hu
  obtain ⟨cl, sg, st, sd, rd, its, n, oc, fo, sdo, ro, rfl, hS, e1, e2, e3, e4, e6, D, stays, nd, fr⟩ := hp
  have ap := fun x hx => new_apart F N (fr x hx).1
  obtain ⟨F', N'⟩ := after (S := []) (news' := (sg, listOf its.toArray n) :: (cl, oc) :: (st, fo) :: (sd, sdo) :: (rd, ro) :: news) F N stays
    (fun b hb => nomatch hb) (fun q hq => by
      have get : ∀ x o, h'.get? x = some o → x ∈ [cl, sg, st, sd, rd] → h'.get? x = some o ∧ x ≠ L ∧ g.get? x = none := fun x o e hx => ⟨e, (ap x hx).1, (ap x hx).2.1⟩
      rcases List.mem_cons.mp hq with rfl | hq
      · exact .inr (get _ _ e6 (by simp))
      rcases List.mem_cons.mp hq with rfl | hq
      · exact .inr (get _ _ e1 (by simp))
      rcases List.mem_cons.mp hq with rfl | hq
      · exact .inr (get _ _ e2 (by simp))
      rcases List.mem_cons.mp hq with rfl | hq
      · exact .inr (get _ _ e3 (by simp))
      rcases List.mem_cons.mp hq with rfl | hq
      · exact .inr (get _ _ e4 (by simp))
      · exact .inl ⟨hq, List.not_mem_nil⟩)
  exact h cl sg st sd rd its n oc fo sdo ro h' tk' hS D nd (fun q hq hm => (ap q.1 hm).2.2 q hq rfl) F' N'
theorem call_all {cl sg st sd rd cr lx dx pb : Addr} {oc fo sdo ro ocr : Obj} {its pv : List Value} {n np : Nat} {cs ps : List Str} {ln : Int} {ws rest : List Str} {k1 k2 k3 k4 t t3 : Tok}
   (X : (hd2.heap_39 w.params).In g) (T : Top p loose mean mg mb g) (F : Fr g L s.heap m) (N : News g L s.heap news) (hC : CodeHd g 83 81)
   (hS : StrmIs (hd2.heap_39 w.params) 84 w cl sg st sd rd cr oc fo sdo ro ocr)
   (mcl : (cl, oc) ∈ news) (mst : (st, fo) ∈ news) (msd : (sd, sdo) ∈ news) (mrd : (rd, ro) ∈ news) (mcr : (cr, ocr) ∈ news)
   (mlx : (lx, instObj 52 dx) ∈ news) (mdx : (dx, dictOf (lexDict w k1 k2 k3 k4 t t3 ln st pb) 4) ∈ news) (mpb : (pb, listOf pv.toArray np) ∈ news) (msg : (sg, listOf its.toArray n) ∈ news)
   (nd : [cl, sg, st, sd, rd, lx, dx, pb].Nodup) (SS : Signs its cs) (D : DatAll [] pv (ps.map Dat.str)) (hz : pv.length ≤ 100000) (hw : ws.length ≤ 100000) (hT : Told ps cs ws rest)
   (keep : List (Addr × Obj)) (hk : ∀ q ∈ keep, q ∈ news ∧ q.1 ∉ [sg, dx, pb])
   (h : ∀ a vs n' its' n2 np' ln' k1 k2 k3 k4 t t3 h' tk', DatAll [] vs (ws.map Dat.str) → Signs its' rest → ln' + nls rest = ln + nls cs → (∀ q ∈ news, q.1 ≠ a) → Fr g L h' m →
     News g L h' ((a, listOf vs.toArray n') :: (sg, listOf its'.toArray n2) :: (dx, dictOf (lexDict w k1 k2 k3 k4 t t3 ln' st pb) 4) :: (pb, listOf #[] np') :: keep) → Q (.ref a) { s with heap := h', toks := tk' })
   (hh : A.handled = none := by exact rfl) (hd : A.depth ≤ (lvl 5).depth := by exact Nat.le_of_ble_eq_true rfl) (hu : A.units ≤ (lvl 5).units := by exact Nat.le_of_ble_eq_true rfl) :
   wpAny (model PySem.Challenge.pw_ik0002_02 w) A (call (.ref 112) [.ref lx]) Q E s := by
  refine (all_does (H := g) (sg := sg) (st := st) (dx := dx) (pb := pb) (its := its) (pv := pv) (ln := ln) ⟨X, ⟨_, _, _, _, _, T⟩, fun b o e => F.keep _ _ e⟩ hC ⟨hS s.heap (N _ mcl).1 (N _ mst).1 (N _ msd).1 (N _ mrd).1 (N _ mcr).1, ?_, nd⟩
    ⟨⟨_, (N _ msg).1⟩, (N _ mlx).1, ⟨_, _, _, _, _, _, (N _ mdx).1⟩, ⟨_, (N _ mpb).1⟩⟩ SS D hz hw hT).call (fun v h' tk' hp => ?_) hh hd hu
  · intro x hx
    revert x
    refine all_cons ?_ (all_cons ?_ (all_cons ?_ (all_cons ?_ (all_cons ?_ (all_cons ?_ (all_cons ?_ (all_cons ?_ all_nil)))))))
    · exact (N _ mcl).2.2
    · exact (N _ msg).2.2
    · exact (N _ mst).2.2
    · exact (N _ msd).2.2
    · exact (N _ mrd).2.2
    · exact (N _ mlx).2.2
    · exact (N _ mdx).2.2
    · exact (N _ mpb).2.2
  obtain ⟨stays, a, vs, n', its', ln', rfl, ea, ea', Dv, SS', hl, ⟨⟨n2, f1⟩, f2, ⟨k1', k2', k3', k4', t', t3', f3⟩, np', f4⟩⟩ := hp
  have ap := new_apart F N ea
  obtain ⟨F', N'⟩ := after (S := [sg, dx, pb]) (news' := (a, listOf vs.toArray n') :: (sg, listOf its'.toArray n2) :: (dx, dictOf (lexDict w k1' k2' k3' k4' t' t3' ln' st pb) 4) :: (pb, listOf #[] np') :: keep) F N stays
    (fun b hb => by
      revert b
      refine all_cons ?_ (all_cons ?_ (all_cons ?_ all_nil))
      · exact (N _ msg).2
      · exact (N _ mdx).2
      · exact (N _ mpb).2) (fun q hq => by
      rcases List.mem_cons.mp hq with rfl | hq
      · exact .inr ⟨ea', ap.1, ap.2.1⟩
      rcases List.mem_cons.mp hq with rfl | hq
      · exact .inr ⟨f1, (N _ msg).2⟩
      rcases List.mem_cons.mp hq with rfl | hq
      · exact .inr ⟨f3, (N _ mdx).2⟩
      rcases List.mem_cons.mp hq with rfl | hq
      · exact .inr ⟨f4, (N _ mpb).2⟩
      · exact .inl (hk q hq))
  exact h a vs n' its' n2 np' ln' _ _ _ _ _ _ h' tk' Dv SS' hl ap.2.2 F' N'
theorem call_push {lx dx pb st : Addr} {x : Str} {tx : Tok} {pu : List Value} {np : Nat} {ln : Int} {k1 k2 k3 k4 t t3 : Tok}
   (X : (hd2.heap_39 w.params).In g) (T : Top p loose mean mg mb g) (F : Fr g L s.heap m) (N : News g L s.heap news) (hC : CodeHd g 83 81)
   (mlx : (lx, instObj 52 dx) ∈ news) (mdx : (dx, dictOf (lexDict w k1 k2 k3 k4 t t3 ln st pb) 4) ∈ news) (mpb : (pb, listOf pu.toArray np) ∈ news) (hz : pu.length ≤ 100000)
   (nd : [lx, dx, pb].Nodup) (keep : List (Addr × Obj)) (hk : ∀ q ∈ keep, q ∈ news ∧ q.1 ≠ pb)
   (h : ∀ v np' h' tk', Fr g L h' m → News g L h' ((pb, listOf (pu ++ [Value.str x tx]).toArray np') :: keep) → Q v { s with heap := h', toks := tk' })
   (hh : A.handled = none := by exact rfl) (hd : A.depth ≤ (lvl 6).depth := by exact Nat.le_of_ble_eq_true rfl) (hu : A.units ≤ (lvl 6).units := by exact Nat.le_of_ble_eq_true rfl) :
   wpAny (model PySem.Challenge.pw_ik0002_02 w) A (call (.ref 49) [.ref lx, .str x tx]) Q E s := by
  refine (push_does (H := g) (dx := dx) (pb := pb) (st := st) (ln := ln) ⟨X, ⟨_, _, _, _, _, T⟩, fun b o e => F.keep _ _ e⟩ hC (N _ mlx).1 ⟨_, _, _, _, _, _, (N _ mdx).1⟩ (N _ mpb).1 hz ?_ nd).call (fun v h' tk' hp => ?_) hh hd hu
  · intro x hx
    revert x
    refine all_cons ?_ (all_cons ?_ (all_cons ?_ all_nil))
    · exact (N _ mlx).2.2
    · exact (N _ mdx).2.2
    · exact (N _ mpb).2.2
  obtain ⟨stays, np', f1⟩ := hp
  obtain ⟨F', N'⟩ := after (S := [pb]) (news' := (pb, listOf (pu ++ [Value.str x tx]).toArray np') :: keep) F N stays
    (fun b hb => by rw [List.mem_singleton.mp hb]; exact (N _ mpb).2) (fun q hq => by
      rcases List.mem_cons.mp hq with rfl | hq
      · exact .inr ⟨f1, (N _ mpb).2⟩
      · exact .inl ⟨(hk q hq).1, fun hm => (hk q hq).2 (List.mem_singleton.mp hm)⟩)
  exact h v np' h' tk' F' N'
end
end Mine
end
section
open PySem PySem.W PyProof.Rows PySem.Calls
set_option maxRecDepth 100000
namespace Mine
theorem fillRCRedC : (fun (_ : OpenLaw) (_ : Params → Frag) => True) PySem.Challenge.rw_ik0002_02 hd2.heap_39 := by
  k_fill
  trivial
theorem ns_apart {g h : Heap} {L a : Addr} {m : Str → Option Value} {xs : Array Value} {n : Nat} (F : Fr g L h m) (e : h.get? a = some (listOf xs n)) : a ≠ L := by
  rintro rfl
  obtain ⟨o, es, ep, ho, hd, _⟩ := F.ns
  rw [e] at ho
  cases ho
  cases hd
theorem fn98 {w : World} {h : Heap} (X : (hd2.heap_39 w.params).In h) : FnAt 98 h := ⟨_, _, _, _, X _ _ (by k_is)⟩
theorem fn105 {w : World} {h : Heap} (X : (hd2.heap_39 w.params).In h) : FnAt 105 h := ⟨_, _, _, _, X _ _ (by k_is)⟩
theorem not64 {w : World} {g h : Heap} {L si : Addr} {news : List (Addr × Obj)} {o : Obj} (X : (hd2.heap_39 w.params).In g) (N : News g L h news) (m : (si, o) ∈ news) : si ≠ 64 := by
  rintro rfl
  have q := (N _ m).2.2
  have e : ∃ o, (hd2.heap_39 w.params).lookup 64 = some o := ⟨_, by k_is⟩
  obtain ⟨o, e⟩ := e
  rw [X _ _ e] at q
  cases q
section
variable {w : World} {A : Around} {Q E : Value → Shared → Prop} {s : Shared} {g : Heap} {L sq si : Addr} {m : Str → Option Value} {news : List (Addr × Obj)} {p : Program} {loose : List Str} {mean : ExcName → Option Value} {mg mb : Str → Option Value} {l : List Turn} {els : List Value} {n n0 : Nat}
theorem call_redstep (X : (hd2.heap_39 w.params).In g) (T : Top p loose mean mg mb g) (F : Fr g L s.heap m) (N : News g L s.heap news) (hC : CodeHd g 83 81) (hl : okT l)
   (hne : si ≠ sq) (msq : (sq, listOf els.toArray n) ∈ news) (msi : (si, listOf #[] n0) ∈ news) (hz : els.length ≤ 100000) (D : DatAll [] els ((row0 l).map Dat.str))
   (h : ∀ a t na h' tk', Fr g L h' m → News g L h' ((a, listOf #[Value.int (totT 3 l) t] na) :: news) → Q (.ref a) { s with heap := h', toks := tk' })
   (hh : A.handled = none := by exact rfl) (hd : A.depth ≤ (lvl 4).depth := by exact Nat.le_of_ble_eq_true rfl) (hu : A.units ≤ (lvl 4).units := by exact Nat.le_of_ble_eq_true rfl) :
   wpAny (model PySem.Challenge.pw_ik0002_02 w) A (call (.ref 72) [.ref 98, .ref sq, .ref si]) Q E s := by
  refine (red_step (H := g) hl ⟨X, ⟨_, _, _, _, _, T⟩, fun b o e => F.keep _ _ e⟩ hC (N _ msq).1 (N _ msq).2.2 (N _ msi).1 (N _ msi).2.2 hz (fn98 (X.keeps F.keep)) (not64 X N msi) hne D).call (fun v h' tk' hp => ?_) hh hd hu
  obtain ⟨st, a, t, na, rfl, e, hf⟩ := hp
  obtain ⟨F', N'⟩ := after (S := []) (news' := news) F N st (fun b hb => nomatch hb) (fun q hq => .inl ⟨hq, List.not_mem_nil⟩)
  refine h a t na h' tk' F' fun q hq => ?_
  rcases List.mem_cons.mp hq with rfl | hq
  · exact ⟨e, ns_apart F' e, hf⟩
  · exact N' q hq
theorem call_redback (X : (hd2.heap_39 w.params).In g) (T : Top p loose mean mg mb g) (F : Fr g L s.heap m) (N : News g L s.heap news) (hC : CodeHd g 83 81) (hl : okT l) (hzl : l.length ≤ 40000)
   (hne : si ≠ sq) (msq : (sq, listOf els.toArray n) ∈ news) (msi : (si, listOf #[] n0) ∈ news) (hz : els.length ≤ 100000) (D : DatAll [] els ((row0 l).reverse.map Dat.str))
   (h : ∀ a t na h' tk', Fr g L h' m → News g L h' ((a, listOf #[Value.int (totT 3 l) t] na) :: news) → Q (.ref a) { s with heap := h', toks := tk' })
   (hh : A.handled = none := by exact rfl) (hd : A.depth ≤ (lvl 4).depth := by exact Nat.le_of_ble_eq_true rfl) (hu : A.units ≤ (lvl 4).units := by exact Nat.le_of_ble_eq_true rfl) :
   wpAny (model PySem.Challenge.pw_ik0002_02 w) A (call (.ref 72) [.ref 105, .ref sq, .ref si]) Q E s := by
  refine (red_back (H := g) hl ⟨X, ⟨_, _, _, _, _, T⟩, fun b o e => F.keep _ _ e⟩ hC (N _ msq).1 (N _ msq).2.2 (N _ msi).1 (N _ msi).2.2 hz hzl (fn105 (X.keeps F.keep)) (not64 X N msi) hne D).call (fun v h' tk' hp => ?_) hh hd hu
  obtain ⟨st, a, t, na, rfl, e, hf⟩ := hp
  obtain ⟨F', N'⟩ := after (S := []) (news' := news) F N st (fun b hb => nomatch hb) (fun q hq => .inl ⟨hq, List.not_mem_nil⟩)
  refine h a t na h' tk' F' fun q hq => ?_
  rcases List.mem_cons.mp hq with rfl | hq
  · exact ⟨e, ns_apart F' e, hf⟩
  · exact N' q hq
end
end Mine
end
section
open PySem PySem.W PyProof.Rows PySem.Calls
set_option maxRecDepth 100000
set_option maxHeartbeats 4000000
namespace Mine
noncomputable def Hold (P : Prop) : Prop := P
theorem hold {P : Prop} (h : Hold P) : P := h
theorem held {P : Prop} (h : P) : Hold P := h
theorem news_sub {g h : Heap} {L : Addr} {news news' : List (Addr × Obj)} (N : News g L h news) (hs : ∀ q ∈ news', q ∈ news) : News g L h news' := fun q hq => N q (hs q hq)
theorem nodup8 {cl sg st sd rd lx dx pb : Addr} (nd1 : [cl, sg, st, sd, rd].Nodup) (nd2 : [lx, dx, pb].Nodup) (h : ∀ x ∈ [cl, sg, st, sd, rd], x ≠ lx ∧ x ≠ dx ∧ x ≠ pb) : [cl, sg, st, sd, rd, lx, dx, pb].Nodup := by
  show ([cl, sg, st, sd, rd] ++ [lx, dx, pb]).Nodup
  refine List.nodup_append.mpr ⟨nd1, nd2, fun a ha b hb => ?_⟩
  simp only [List.mem_cons, List.not_mem_nil, or_false] at hb
  obtain ⟨h1, h2, h3⟩ := h a ha
  rcases hb with rfl | rfl | rfl
  · exact h1
  · exact h2
  · exact h3
theorem notin_of {news : List (Addr × Obj)} {S : List Addr} {a x : Addr} {o : Obj} (ap : ∀ q ∈ news, q.1 ∉ S) (m : (a, o) ∈ news) (hx : x ∈ S) : a ≠ x := fun e => ap _ m (by rw [show (a, o).1 = x from e]; exact hx)
theorem not3 {a x y z : Addr} (h1 : a ≠ x) (h2 : a ≠ y) (h3 : a ≠ z) : a ∉ [x, y, z] := by
  simp only [List.mem_cons, List.not_mem_nil, or_false, not_or]
  exact ⟨h1, h2, h3⟩
theorem code_ne {o : Obj} (r : RdCode o) {xs : Array Value} {n : Nat} : o ≠ listOf xs n := by
  rintro rfl
  obtain ⟨vs, t, a, _⟩ := r
  cases a
theorem text_lt {l : List Turn} (h : okT l) : ∀ c ∈ text0 l, c < 128 := by
  have w1 : ∀ (l : List Nat) way, (∀ c ∈ l, c < 128) → ∀ c ∈ writ l way, c < 128 := by
    intro l way h c hc
    unfold writ at hc
    split at hc
    · exact h c hc
    · simp only [List.mem_cons, List.mem_append, List.not_mem_nil, or_false] at hc
      rcases hc with rfl | hc | rfl
      · decide
      · exact h c hc
      · decide
    · rcases List.mem_cons.mp hc with rfl | hc
      · decide
      · exact h c hc
  have wf : ∀ d < 10, ∀ c ∈ fig d, c < 128 := by decide +kernel
  have wd : ∀ o < 3, ∀ c ∈ deed o, c < 128 := by decide +kernel
  intro c hc
  unfold text0 at hc
  rcases List.mem_append.mp hc with hc | hc
  · simp only [List.mem_cons, List.not_mem_nil, or_false] at hc
    omega
  · unfold textT at hc
    obtain ⟨x, hx, hc⟩ := List.mem_flatMap.mp hc
    unfold blk at hc
    simp only [List.mem_append, List.mem_cons, List.not_mem_nil, or_false] at hc
    rcases hc with (hc | hc) | hc | hc
    · exact w1 _ _ (wf _ (h x hx).1) c hc
    · omega
    · exact w1 _ _ (wd _ (h x hx).2) c hc
    · omega
theorem signs_text {its : List Value} {text : Str} {l : List Turn} (hl : okT l) (h10 : l.length ≤ 10) (hT : text.cps.toList = text0 l) (D : DatAll [] its ((signs text).map Dat.str)) : Signs its (sg1 (text0 l)) := by
  have e : signs text = sg1 (text0 l) := by rw [← hT]; rfl
  rw [e] at D
  refine ⟨D, fun d hd => ?_, fun c hc => ?_, ?_⟩
  · obtain ⟨x, hx, rfl⟩ := List.mem_map.mp hd
    obtain ⟨c, hc, rfl⟩ := List.mem_map.mp hx
    have := text_lt hl c hc
    show (#[c] : Array Nat).all (· < 0x110000) = true
    simp only [List.all_toArray, List.all_cons, List.all_nil, Bool.and_true, decide_eq_true_eq]
    omega
  · obtain ⟨c, hc, rfl⟩ := List.mem_map.mp hc
    rfl
  · have q := D.length
    have := text0_len hl
    simp only [List.length_map, sg1] at q
    omega
theorem row_ok {l : List Turn} (h : okT l) : ∀ d ∈ (row0 l).map Dat.str, kqdOk 8 d = true := by
  have w1 : ∀ d < 10, kqdOk 8 (Dat.str (figS d)) = true := by decide +kernel
  have w2 : ∀ o < 3, kqdOk 8 (Dat.str (deedS o)) = true := by decide +kernel
  have w3 : kqdOk 8 (Dat.str (Str.ofString "3")) = true := by decide +kernel
  intro d hd
  obtain ⟨x, hx, rfl⟩ := List.mem_map.mp hd
  rcases List.mem_cons.mp hx with rfl | hx
  · exact w3
  · obtain ⟨y, hy, hx⟩ := List.mem_flatMap.mp hx
    simp only [List.mem_cons, List.not_mem_nil, or_false] at hx
    rcases hx with rfl | rfl
    · exact w1 _ (h y hy).1
    · exact w2 _ (h y hy).2
theorem news_ne {g h : Heap} {L a b : Addr} {oa ob : Obj} {news : List (Addr × Obj)} (N : News g L h news) (ma : (a, oa) ∈ news) (mb : (b, ob) ∈ news) (ne : oa ≠ ob) : a ≠ b := by
  rintro rfl
  have e := (N _ ma).1
  rw [(N _ mb).1] at e
  cases e
  exact ne rfl
theorem lt_ne {xs ys : Array Value} {n : Nat} : listOf xs n ≠ tabObj ys := fun h => by cases congrArg Obj.data h

noncomputable def t3M (row ra lx : Addr) (total : Int) (tot : Tok) (m : Str → Option Value) : Str → Option Value := fun y =>
  if y = Str.ofString "row" then some (.ref row) else if y = Str.ofString "read" then some (.ref ra) else if y = Str.ofString "lexer" then some (.ref lx) else if y = Str.ofString "total" then some (.int total tot) else m y
theorem t3_of {g h : Heap} {L row ra lx : Addr} {total : Int} {tot : Tok} {M : Str → Option Value} (F : Fr g L h M) (h1 : M (Str.ofString "row") = some (.ref row)) (h2 : M (Str.ofString "read") = some (.ref ra)) (h3 : M (Str.ofString "lexer") = some (.ref lx))
   (h4 : M (Str.ofString "total") = some (.int total tot)) : Fr g L h (t3M row ra lx total tot M) := by
  refine frCongr F fun y => ?_
  unfold t3M
  by_cases q1 : y = Str.ofString "row"
  · subst q1; rw [if_pos rfl]; exact h1
  rw [if_neg q1]
  by_cases q2 : y = Str.ofString "read"
  · subst q2; rw [if_pos rfl]; exact h2
  rw [if_neg q2]
  by_cases q3 : y = Str.ofString "lexer"
  · subst q3; rw [if_pos rfl]; exact h3
  rw [if_neg q3]
  by_cases q4 : y = Str.ofString "total"
  · subst q4; rw [if_pos rfl]; exact h4
  rw [if_neg q4]
end Mine
end
section
open PySem PySem.W PyProof.Rows PySem.Calls
set_option maxRecDepth 100000
set_option maxHeartbeats 4000000
namespace Mine

theorem wpAny_lvl {α : Type} {M : Model} {A : Around} {t : Sem α} {Q : α → Shared → Prop} {E : Value → Shared → Prop} {s : Shared} (k : Nat) (h : wpAny M (lvl k) t Q E s)
    (hh : A.handled = none) (hd : A.depth ≤ (lvl k).depth) (hu : A.units ≤ (lvl k).units) : wpAny M A t Q E s := by
  intro Γ p hΓ
  refine h Γ p ⟨hΓ.1.trans hh, Nat.le_trans hΓ.2.1 hd, fun l hl => ?_, fun l hl => ?_, Nat.le_trans hΓ.2.2.2.2 hu⟩
  · cases hl
  · cases hl

noncomputable def KeyAt (h : Heap) (C : Addr) (v : Value) (a : Addr) : Prop := ∃ dA, h.get? a = some { cls := .ref C, dict := some dA, data := .plain, slots := #[some v] } ∧ h.get? dA = some { cls := .type "dict", data := .dict #[] 0 }

theorem ref_type {M : Model} {h : Heap} {a : Addr} {o : Obj} (ha : h.get? a = some o) : Looks M h (typeOf (.ref a)) o.cls := by
  refine looks_typeIn (K := [(a, o)]) (fun b ob e => ?_) ?_
  · rw [List.lookup_cons] at e
    by_cases q : b = a
    · subst q; rw [beq_self_eq_true] at e; cases e; exact ha
    · rw [beq_eq_false_iff_ne.mpr q] at e; cases e
  · show Option.map (fun x => x.cls) (List.lookup a [(a, o)]) = _
    rw [List.lookup_cons, beq_self_eq_true]
    rfl
noncomputable def kev {α : Type} (r : Nat → Nat → Bool) : KasT α → α
  | .ret a => a
  | .ask i j k => kev r (k (r i j))
noncomputable def kok {α : Type} (n : Nat) (r : Nat → Nat → Bool) : KasT α → Bool
  | .ret _ => true
  | .ask i j k => decide (i < n) && (decide (j < n) && kok n r (k (r i j)))
theorem kas_eval {α : Type} {cmp : Nat → Nat → (Bool → Shared → Prop) → Shared → Prop} {r : Nat → Nat → Bool} {n : Nat} {I : Shared → Prop}
    (hc : ∀ i j C s, i < n → j < n → I s → (∀ s', I s' → C (r i j) s') → cmp i j C s) : ∀ (t : KasT α) (Q : α → Shared → Prop) (s : Shared), kok n r t = true → I s → (∀ s', I s' → Q (kev r t) s') → t.kasWp cmp Q s
  | .ret a, Q, s, _, hI, hQ => hQ s hI
  | .ask i j k, Q, s, ho, hI, hQ => by
    unfold kok at ho
    simp only [Bool.and_eq_true, decide_eq_true_eq] at ho
    exact hc i j _ s ho.1 ho.2.1 hI fun s' hI' => kas_eval hc (k (r i j)) Q s' ho.2.2 hI' hQ

theorem Stays.sameBut {h h' : Heap} {a : Addr} (x : Heap.SameBut a h h') : Stays [a] h h' := fun b o e hb => (x.2 b (by simpa using hb)).trans e
theorem ne_cls {h : Heap} {a b : Addr} {oa ob : Obj} (ha : h.get? a = some oa) (hb : h.get? b = some ob) (hc : oa.cls ≠ ob.cls) : a ≠ b := by
  rintro rfl
  rw [ha] at hb
  cases hb
  exact hc rfl
theorem KeyAt.keeps {h h' : Heap} {C : Addr} {v : Value} {k : Addr} {S : List Addr} (x : KeyAt h C v k) (st : Stays S h h') (hS : ∀ b ∈ S, ∀ o, h.get? b = some o → o.cls = .type "list") : KeyAt h' C v k := by
  obtain ⟨d, e1, e2⟩ := x
  refine ⟨d, st _ _ e1 fun hm => ?_, st _ _ e2 fun hm => ?_⟩
  · have := hS _ hm _ e1; cases this
  · have := hS _ hm _ e2; exact absurd this (by simp)

section
variable {prog : Program} {w : World} {A : Around} {E : Value → Shared → Prop} {s : Shared} {a C : Addr} {vs : List Value} {n : Nat} {P : PySem.Fin → Shared → Prop} {r : Nat → Nat → Bool}

noncomputable def Keys (h : Heap) (C : Addr) (vs keys : List Value) : Prop := ∀ j v, keys[j]? = some v → ∃ k, v = .ref k ∧ KeyAt h C (vs.getD j .none) k

theorem Keys.keeps {h h' : Heap} {keys : List Value} {S : List Addr} (x : Keys h C vs keys) (st : Stays S h h') (hS : ∀ b ∈ S, ∀ o, h.get? b = some o → o.cls = .type "list") : Keys h' C vs keys := fun j v e => by
  obtain ⟨k, e1, e2⟩ := x j v e
  exact ⟨k, e1, e2.keeps st hS⟩

theorem sort_keys (ho : s.heap.get? a = some (seqObj "list" vs.toArray n)) (h2 : 2 ≤ vs.length) (h64 : vs.length < 64)
    (hkey : ∀ v ∈ vs, ∀ h tk, Stays [a] s.heap h → wpAny (model prog w) A (call (.ref C) [v]) (fun x s'' => ∃ k h1 tk1, x = .ref k ∧ s'' = { s with heap := h1, toks := tk1 } ∧ Stays [] h h1 ∧ KeyAt h1 C v k) (fun _ _ => False) { s with heap := h, toks := tk })
    (hcmp : ∀ i j, i < vs.length → j < vs.length → ∀ h tk k l, Stays [a] s.heap h → KeyAt h C (vs.getD i .none) k → KeyAt h C (vs.getD j .none) l →
      wpAny (model prog w) A (keyLt' oneType' (.ref k) (.ref l)) (fun x s'' => x = r i j ∧ ∃ h1 tk1, s'' = { s with heap := h1, toks := tk1 } ∧ Stays [] h h1) (fun _ _ => False) { s with heap := h, toks := tk })
    (hok : kok vs.length r (kas_sort vs.length) = true)
    (fin : ∀ h' tk c, Stays [a] s.heap h' → h'.get? a = some (seqObj "list" ((kev r (kas_sort vs.length)).toList.map fun i => vs.getD i .none).toArray c) → P (.done (.ret .none)) { s with heap := h', toks := tk }) :
    wpAny (model prog w) A (ksk_tree a (.ref C) false) P E s := by
  have ha : a < s.heap.objs.size := Heap.lt_size ho
  have s1 := Heap.SameBut.update s.heap a (Obj.mapSeq fun _ => (#[] : Array Value))
  obtain ⟨e1, ho1⟩ : ∃ e1, (s.heap.update a (Obj.mapSeq fun _ => (#[] : Array Value))).get? a = some (seqObj "list" #[] e1) := ⟨_, get?_update_seq ho fun _ => #[]⟩
  have hsz1 : (s.heap.update a (Obj.mapSeq fun _ => (#[] : Array Value))).objs.size = s.heap.objs.size := Heap.size_update ..
  unfold ksk_tree
  refine wpAny_bind (listItems_at ho rfl ?_)
  refine wpAny_bind (listUpdate_at ho rfl ?_ (by rw [List.size_toArray, sizeLine_eq]; omega) (Nat.zero_le _))
  refine wpAny_bind (seqEpoch_at ho1 rfl ?_)
  refine wpAny_bind (wpAny_newTuple ?_ (by show vs.length ≤ _; rw [sizeLine_eq]; omega))
  refine wpAny_bind (wpAny_newList ?_ (Nat.zero_le _))
  refine wpAny_holding ?_
  generalize hkS : ((s.heap.update a (Obj.mapSeq fun _ => (#[] : Array Value))).push (seqObj "tuple" vs.toArray 0)).objs.size = kS
  have hkS' : kS = s.heap.objs.size + 1 := by rw [← hkS, size_push', hsz1]
  generalize hg : (((s.heap.update a (Obj.mapSeq fun _ => (#[] : Array Value))).push (seqObj "tuple" vs.toArray 0)).push (seqObj "list" #[] 0)) = g
  have gk : g.get? kS = some (seqObj "list" #[] 0) := by rw [← hg, ← hkS]; exact Heap.get?_push_size _ rfl
  have ga : g.get? a = some (seqObj "list" #[] e1) := by rw [← hg]; exact Heap.get?_push_of_some _ (Heap.get?_push_of_some _ ho1)
  have gs : Stays [a] s.heap g := fun b o e hb => by
    rw [← hg]
    exact Heap.get?_push_of_some _ (Heap.get?_push_of_some _ ((s1.2 b (by simpa using hb)).trans e))
  have hka : kS ≠ a := by rw [hkS']; exact Nat.ne_of_gt (Nat.lt_succ_of_lt ha)
  have old : ∀ h, Stays [a, kS] g h → Stays [a] s.heap h := fun h x b o e hb => x b o (gs b o e hb) (by
    have : b ≠ kS := by rw [hkS']; exact Nat.ne_of_lt (Nat.lt_succ_of_lt (Heap.lt_size e))
    simp only [List.mem_cons, List.not_mem_nil, or_false] at hb ⊢
    exact fun h => h.elim hb this)
  show wpAny (model prog w) A (ksk_rest a (.ref C) false vs.toArray e1 (.ref kS)) P E { s with heap := g }
  unfold ksk_rest
  refine wpAny_bind (wpAny_rule ?_)
  rw [List.forIn_toArray]
  have lists : ∀ (h : Heap) (keys : Array Value) (e : Nat), h.get? kS = some (seqObj "list" keys e) → h.get? a = some (seqObj "list" #[] e1) → ∀ b ∈ [a, kS], ∀ o, h.get? b = some o → o.cls = .type "list" := by
    intro h keys e h1 h2 b hb o eo
    simp only [List.mem_cons, List.not_mem_nil, or_false] at hb
    rcases hb with rfl | rfl
    · rw [h2] at eo; cases eo; rfl
    · rw [h1] at eo; cases eo; rfl
  refine wpAny_bind (ksk_fold (fun i s' => ∃ h' tk keys e, s' = { s with heap := h', toks := tk } ∧ Stays [a, kS] g h' ∧ h'.get? kS = some (seqObj "list" (List.toArray keys) e) ∧ h'.get? a = some (seqObj "list" #[] e1) ∧ keys.length = i ∧ Keys h' C vs keys) vs 0 _
    ⟨g, s.toks, [], 0, rfl, Stays.refl _ _, gk, ga, rfl, fun j v e => by simp at e⟩ ?step ?done)
  case step =>
    rintro j x s' hx ⟨h', tk, keys, e, rfl, st, hk, hha, hl, hK⟩
    simp only [Nat.zero_add] at hl ⊢
    have hj : j < vs.length := (List.getElem?_eq_some_iff.mp hx).1
    refine wpAny_bind (wpAny_attempt (wpAny_mono (hkey x (List.mem_of_getElem? hx) h' tk (old _ st)) (fun v s'' he => ?_) fun _ _ hF => hF.elim))
    obtain ⟨k, h1, tk1, rfl, rfl, st1, hk1⟩ := he
    try dsimp only
    have nk := st1 _ _ hk (by simp)
    have na := st1 _ _ hha (by simp)
    have s3 := Heap.SameBut.update h1 kS (Obj.mapSeq (·.push (.ref k)))
    obtain ⟨c2, hc2⟩ : ∃ c2, (h1.update kS (Obj.mapSeq (·.push (.ref k)))).get? kS = some (seqObj "list" ((List.toArray keys).push (.ref k)) c2) := ⟨_, get?_update_seq nk (·.push (.ref k))⟩
    refine wpAny_bind (listUpdate_at nk rfl ?_ (by rw [List.size_toArray, sizeLine_eq]; omega) (by rw [Array.size_push, List.size_toArray, sizeLine_eq]; omega))
    refine wpAny_pure ⟨rfl, _, _, keys ++ [.ref k], c2, rfl, ?_, by rw [hc2]; simp, (s3.2 a hka.symm).trans na, by simp [hl], ?_⟩
    · intro b o eb hb
      have hb2 : b ≠ kS := fun q => hb (by simp [q])
      exact (s3.2 b hb2).trans (st1 b o (st b o eb hb) (by simp))
    · intro i v ev
      have st3 : Stays [kS] h1 (h1.update kS (Obj.mapSeq (·.push (.ref k)))) := Stays.sameBut s3
      have ls : ∀ b ∈ [kS], ∀ o, h1.get? b = some o → o.cls = .type "list" := by
        intro b hb o eo
        rw [List.mem_singleton.mp hb, nk] at eo
        cases eo; rfl
      by_cases hi : i < keys.length
      · rw [List.getElem?_append_left hi] at ev
        obtain ⟨k', e1', e2'⟩ := hK i v ev
        exact ⟨k', e1', (e2'.keeps st1 (by simp)).keeps st3 ls⟩
      · rw [List.getElem?_append_right (by omega)] at ev
        have hi0 : i - keys.length = 0 := by
          by_cases q : i - keys.length = 0
          · exact q
          · rw [List.getElem?_eq_none (by simp; omega)] at ev; cases ev
        rw [hi0] at ev
        have hv : v = .ref k := by simpa using ev.symm
        refine ⟨k, hv, ?_⟩
        have hij : i = j := by omega
        rw [hij, List.getD_eq_getElem?_getD, hx]
        exact hk1.keeps st3 ls
  case done =>
    rintro s' ⟨h', tk, keys, e, rfl, st, hk, hha, hl, hK⟩
    simp only [Nat.zero_add] at hl
    try dsimp only
    refine wpAny_bind (listItems_at hk rfl ?_)
    unfold ksk_end
    try dsimp only
    rw [if_neg (by decide)]
    have hn2 : ¬ vs.toArray.size < 2 := by rw [List.size_toArray]; omega
    rw [if_neg hn2, if_neg hn2]
    refine wpAny_bind (kas_kind (T := .ref C) (by omega) (fun v hv => ?_) (by rfl) (by simp) ?_)
    · obtain ⟨j, hj⟩ := List.getElem?_of_mem hv
      obtain ⟨k, rfl, d, ek, _⟩ := hK j v hj
      exact ref_type ek
    have run := kas_runs (prog := prog) (w := w) (A := A) (E := E) (κ := oneType') (it := (List.toArray keys).zip vs.toArray) (n := vs.length) (s := { s with heap := h', toks := tk })
      (Q := fun _ st' s' => ∃ p : Array Nat, p.size = vs.length ∧ arrOf st' = p.map (kas_item ((List.toArray keys).zip vs.toArray)) ∧ failedOf st' = none ∧ p = kev r (kas_sort vs.length) ∧ ∃ h1 tk1, s' = { s with heap := h1, toks := tk1 } ∧ Stays [] h' h1)
      (G := fun p s' => p = kev r (kas_sort vs.length) ∧ ∃ h1 tk1, s' = { s with heap := h1, toks := tk1 } ∧ Stays [] h' h1) h2 h64 (fun p' st' s' a1 a2 a3 a4 => ⟨p', a1, a2, a3, a4.1, a4.2⟩) ?_
    rotate_left
    · refine kas_eval (r := r) (n := vs.length) (I := fun s' => ∃ h1 tk1, s' = { s with heap := h1, toks := tk1 } ∧ Stays [] h' h1) ?_ _ _ _ hok ⟨h', tk, rfl, Stays.refl _ _⟩ fun s' hI => ⟨rfl, hI⟩
      rintro i j Cc s' hi hj ⟨h1, tk1, rfl, st1⟩ hC
      have item : ∀ i, i < vs.length → ∃ k, (kas_item ((List.toArray keys).zip vs.toArray) i).1 = .ref k ∧ KeyAt h1 C (vs.getD i .none) k := by
        intro i hi
        obtain ⟨v, hv⟩ : ∃ v, keys[i]? = some v := ⟨_, List.getElem?_eq_getElem (by omega)⟩
        obtain ⟨k, rfl, hk1⟩ := hK i v hv
        refine ⟨k, ?_, hk1.keeps st1 (by simp)⟩
        have hi' : i < keys.length := by omega
        have e1 : keys[i] = .ref k := by
          rw [List.getElem?_eq_getElem hi'] at hv
          exact Option.some.inj hv
        unfold kas_item
        have hsz : i < ((List.toArray keys).zip vs.toArray).size := by simp; omega
        have hmin : i < min keys.length vs.length := by omega
        simp [Array.getD, hi', hi, e1, hmin]
      obtain ⟨k, ek, hk1⟩ := item i hi
      obtain ⟨l, el, hl1⟩ := item j hj
      unfold kas_cmp
      rw [ek, el]
      refine wpAny_mono (hcmp i j hi hj h1 tk1 k l (old _ (st.trans (st1.weaken (by simp)))) hk1 hl1) ?_ fun _ _ e => e
      rintro x s'' ⟨rfl, h2', tk2, rfl, st2⟩
      exact hC _ ⟨h2', tk2, rfl, st1.trans st2⟩
    have est : SortSt.mk' oneType' ((List.toArray keys).zip vs.toArray) #[] 7 none = kas_st oneType' ((List.toArray keys).zip vs.toArray) (List.toArray (List.range vs.length)) := by
      have e := kas_range ((List.toArray keys).zip vs.toArray)
      have hz : ((List.toArray keys).zip vs.toArray).size = vs.length := by simp; omega
      rw [hz] at e
      show SortSt.mk' oneType' ((List.toArray keys).zip vs.toArray) #[] 7 none = SortSt.mk' oneType' ((List.toArray (List.range vs.length)).map (kas_item ((List.toArray keys).zip vs.toArray))) #[] 7 none
      rw [e]
    rw [← est] at run
    refine wpAny_bind (wpAny_mono run ?_ fun _ _ e => e)
    rintro ⟨⟨⟩, st'⟩ s' ⟨p, hp, har, hf, hpe, h1, tk1, rfl, st1⟩
    try dsimp only
    have nk := st1 _ _ hk (by simp)
    have na := st1 _ _ hha (by simp)
    have s3 := Heap.SameBut.update h1 kS (Obj.mapSeq fun _ => (#[] : Array Value))
    have na3 := (s3.2 a hka.symm).trans na
    have hsz : ((arrOf st').map (·.2)).size = vs.length := by rw [har, Array.size_map, Array.size_map, hp]
    have s4 := Heap.SameBut.update (h1.update kS (Obj.mapSeq fun _ => (#[] : Array Value))) a (Obj.mapSeq fun _ => (arrOf st').map (·.2))
    obtain ⟨c4, hc4⟩ : ∃ c4, ((h1.update kS (Obj.mapSeq fun _ => (#[] : Array Value))).update a (Obj.mapSeq fun _ => (arrOf st').map (·.2))).get? a = some (seqObj "list" ((arrOf st').map (·.2)) c4) := ⟨_, get?_update_seq na3 fun _ => (arrOf st').map (·.2)⟩
    unfold ksk_tail
    try dsimp only
    refine wpAny_bind (listUpdate_at nk rfl ?_ (by rw [List.size_toArray, sizeLine_eq]; omega) (Nat.zero_le _))
    refine wpAny_bind (wpAny_letGo ?_)
    refine wpAny_bind (seqEpoch_at na3 rfl ?_)
    simp only [Bool.false_eq_true, if_false]
    refine wpAny_bind (listUpdate_at na3 rfl ?_ (Nat.zero_le _) (Nat.le_trans (Nat.le_of_eq hsz) (by rw [sizeLine_eq]; omega)))
    rw [hf]
    simp only [bne_self_eq_false, Bool.false_eq_true, if_false]
    refine wpAny_pure (fin _ _ c4 ?_ ?_)
    · intro b o e hb
      have hb2 : b ≠ kS := by rw [hkS']; exact Nat.ne_of_lt (Nat.lt_succ_of_lt (Heap.lt_size e))
      exact (s4.2 b (by simpa using hb)).trans ((s3.2 b hb2).trans (st1 b o (old _ st b o e hb) (by simp)))
    · rw [hc4, ← hpe]
      have : (arrOf st').map (·.2) = List.toArray (p.toList.map fun i => vs.getD i .none) := by
        apply Array.toList_inj.mp
        rw [har, Array.map_map, Array.toList_map]
        refine List.map_congr_left fun i hi => ?_
        show (kas_item ((List.toArray keys).zip vs.toArray) i).2 = _
        unfold kas_item
        by_cases hiv : i < vs.length
        · have hik : i < keys.length := by omega
          have hmin : i < min keys.length vs.length := by omega
          simp [Array.getD, hiv, hik, hmin]
        · have hik : ¬ i < keys.length := by omega
          have hmin : ¬ i < min keys.length vs.length := by omega
          simp [Array.getD, hiv, hik, hmin]
      rw [this]
end
end Mine
end
section
open PySem PySem.W PyProof.Rows PySem.Calls
set_option maxRecDepth 100000
set_option maxHeartbeats 4000000
namespace Mine
section
variable {prog : Program} {w : World} {A : Around} {E : Value → Shared → Prop} {s : Shared} {C : Addr} {x : Value} {Q : Value → Shared → Prop} {r : Nat → Nat → Bool} {N : Nat} {OK : List Value → Prop}

theorem sorted_keys (hx : argsOk "sorted" ⟨[x], [(Str.ofString "key", .ref C)]⟩) (h2 : 2 ≤ N) (h64 : N < 64)
    (hcol : ∀ Q : List Value → Shared → Prop, (∀ h' tk vs, Stays [] s.heap h' → vs.length = N → OK vs → Q vs { s with heap := h', toks := tk }) → wpAny (model prog w) A.in1 (collect x) Q E s)
    (hkey : ∀ vs, vs.length = N → OK vs → ∀ v ∈ vs, ∀ h tk, Stays [] s.heap h → wpAny (model prog w) A.in1.in1 (call (.ref C) [v]) (fun x s'' => ∃ k h1 tk1, x = .ref k ∧ s'' = { s with heap := h1, toks := tk1 } ∧ Stays [] h h1 ∧ KeyAt h1 C v k) (fun _ _ => False) { s with heap := h, toks := tk })
    (hcmp : ∀ vs, vs.length = N → OK vs → ∀ i j, i < N → j < N → ∀ h tk k l, Stays [] s.heap h → KeyAt h C (vs.getD i .none) k → KeyAt h C (vs.getD j .none) l →
      wpAny (model prog w) A.in1.in1 (keyLt' oneType' (.ref k) (.ref l)) (fun x s'' => x = r i j ∧ ∃ h1 tk1, s'' = { s with heap := h1, toks := tk1 } ∧ Stays [] h h1) (fun _ _ => False) { s with heap := h, toks := tk })
    (hok : kok N r (kas_sort N) = true)
    (fin : ∀ D h' tk c vs, vs.length = N → OK vs → s.heap.get? D = none → Stays [] s.heap h' → h'.get? D = some (seqObj "list" ((kev r (kas_sort N)).toList.map fun i => vs.getD i .none).toArray c) → Q (.ref D) { s with heap := h', toks := tk }) :
    wpAny (model prog w) A (call (.builtin "sorted") [x] [(Str.ofString "key", .ref C)]) Q E s := by
  refine call_function_entry_kw kind_sorted plain_sorted entry_sorted hx ?_
  unfold Builtin.«sorted»
  refine wpAny_bind (m := checkCount "sorted" 1 1 _) (wpAny_pure ?_)
  refine wpAny_bind (hcol _ fun h1 tk vs st1 hl ok => ?_)
  refine wpAny_bind (wpAny_newList ?_ (by rw [hl, sizeLine_eq]; omega))
  have hD : s.heap.get? h1.objs.size = none := by
    cases q : s.heap.get? h1.objs.size with
    | none => rfl
    | some o => exact absurd (Heap.lt_size (st1 _ _ q (by simp))) (Nat.lt_irrefl _)
  have hoL : (h1.push (seqObj "list" vs.toArray 0)).get? h1.objs.size = some (seqObj "list" vs.toArray 0) := Heap.get?_push_size _ rfl
  have st2 : Stays [] s.heap (h1.push (seqObj "list" vs.toArray 0)) := fun b o e hb => Heap.get?_push_of_some _ (st1 b o e hb)
  have up : ∀ h, Stays [h1.objs.size] (h1.push (seqObj "list" vs.toArray 0)) h → Stays [] s.heap h := fun h st b o e hb => st b o (st2 b o e hb) (by
    rw [List.mem_singleton]
    rintro rfl
    rw [hD] at e; cases e)
  refine wpAny_bind (wpAny_holding (wpAny_call_entry_kw slot_list_sort ⟨_, hoL, rfl⟩ entry_list_sort ?body (ksk_l1 _ _)))
  case body =>
    rw [ksk_t1]
    subst hl
    refine sort_keys (r := r) (s := { s with heap := h1.push (seqObj "list" vs.toArray 0), toks := tk }) hoL h2 h64 (fun v hv h tk' st => hkey vs rfl ok v hv h tk' (up h st)) (fun i j hi hj h tk' k l st k1 l1 => hcmp vs rfl ok i j hi hj h tk' k l (up h st) k1 l1) hok fun h' tk' c st e => ⟨_, rfl, ?_⟩
    exact wpAny_pure ⟨_, rfl, fin _ h' tk' c vs rfl ok hD (up h' st) e⟩

theorem collect_range {rg : Addr} {a b c : Int} {t u v : Tok} {n : Nat} {Q : List Value → Shared → Prop} (hh : A.handled = none) (hr : IsRange s.heap rg a b c t u v) (hsmall : Builtin.Range.small a b c = true)
    (hn : Builtin.Range.rangeSize a b c = n) (hlen : n ≤ 2 ^ 24)
    (h : ∀ h' tk (ys : List Value), Stays [] s.heap h' → ys.length = n → (∀ i, i < n → ∃ t, ys.getD i .none = .int (a + i * c) t) → Q ys { s with heap := h', toks := tk }) :
    wpAny (model prog w) A (collect (.ref rg)) Q E s := by
  unfold collect
  refine wpAny_bind (wpAny_runValue (codeAny_builtin entry_proto_collect' ?_))
  rw [Around.under_plainId PySem.F.plain_proto_collect _]
  show wpAny _ A.in1 (newList [] >>= fun l => again (.builtin "list.__iadd__" ⟨[l, .ref rg], []⟩)) _ _ s
  refine wpAny_bind (wpAny_newObj_type ?_)
  refine wpAny_pure ⟨plainId_quiet PySem.F.plain_list_iadd _, codeAny_builtin entry_list_iadd' ?_⟩
  rw [Around.under_plainId PySem.F.plain_list_iadd _]
  have hS₁ : (s.heap.push { cls := .type "list", data := .seq ([] : List Value).toArray }).get? s.heap.objs.size = some { cls := .type "list", data := .seq #[] } := Heap.get?_push_size _ rfl
  show wpAny _ A.in1 (Builtin.List.listExtendWith (.ref s.heap.objs.size) (.ref rg) (.ref s.heap.objs.size)) _ _ _
  have key := wpAny_extend_range (prog := prog) (w := w) (A := A) (s := { s with heap := s.heap.push { cls := .type "list", data := .seq ([] : List Value).toArray } }) (a := a) (b := b) (c := c) (t := t) (u := u) (v := v) (n := n) (r := rg)
    (R := fun (q : Result) (s' : Shared) => ∃ (h' : Heap) (tk : Nat) (acc' : Array Value) (c' : Nat), q = .ok (.ret (.ref s.heap.objs.size)) ∧ s' = { s with heap := h', toks := tk } ∧ Stays [] s.heap h' ∧
      h'.get? s.heap.objs.size = some { cls := .type "list", dict := none, data := .seq acc' c', slots := #[] } ∧ ItemsOf (fun i v => ∃ t, v = .int (a + i * c) t) acc' n)
    hh (Heap.get?_push_of_some _ hr) hsmall hn hlen s.heap.objs.size (.ref s.heap.objs.size) 0 hS₁
    (fun h' tk acc' c' hk hS' hacc => ⟨h', tk, acc', c', rfl, rfl, fun b o e _ => hk b o (Nat.ne_of_lt (Heap.lt_size e)) (Heap.get?_push_of_some _ e), hS', hacc⟩)
  refine wpAny_mono key (fun fin s' x => ?_) fun e s' x => ?_
  · cases fin with
    | done f =>
      obtain ⟨h', tk, acc', c', e, rfl, st, hS', hacc⟩ := x
      cases e
      show wpAny _ A (load s.heap.objs.size >>= _) _ _ _
      refine wpAny_bind (wpAny_load hS' ?_)
      refine wpAny_pure (h h' tk acc'.toList st (by simp [hacc.1]) fun i hi => ?_)
      have hi' : i < acc'.size := by rw [hacc.1]; exact hi
      obtain ⟨t, e⟩ := hacc.2 i acc'[i] (Array.getElem?_eq_getElem hi')
      refine ⟨t, ?_⟩
      rw [List.getD_eq_getElem?_getD, Array.getElem?_toList, Array.getElem?_eq_getElem hi', e]
      rfl
    | again c' =>
      refine ⟨x.1, ?_⟩
      refine codeAny_mono' x.2 ?_
      rintro rr s' ⟨h', tk, acc', c', e, rfl, st, hS', hacc⟩
      cases e
      show wpAny _ A (load s.heap.objs.size >>= _) _ _ _
      refine wpAny_bind (wpAny_load hS' ?_)
      refine wpAny_pure (h h' tk acc'.toList st (by simp [hacc.1]) fun i hi => ?_)
      have hi' : i < acc'.size := by rw [hacc.1]; exact hi
      obtain ⟨t, e⟩ := hacc.2 i acc'[i] (Array.getElem?_eq_getElem hi')
      refine ⟨t, ?_⟩
      rw [List.getD_eq_getElem?_getD, Array.getElem?_toList, Array.getElem?_eq_getElem hi', e]
      rfl
  · obtain ⟨_, _, _, _, e, _⟩ := x
    cases e
end
end Mine
end
section
open PySem PySem.W PyProof.Rows PySem.Calls
set_option maxRecDepth 100000
namespace Mine
theorem sort_rev : ∀ n < 22, kok n (fun i j => decide (j < i)) (kas_sort n) = true ∧ (kev (fun i j => decide (j < i)) (kas_sort n)).toList = (List.range n).reverse := by
  decide +kernel
end Mine
end
section
open PySem PySem.W PyProof.Rows PySem.Calls PySem.W.X
set_option maxRecDepth 100000
namespace Mine

structure MS (h₀ h : Heap) (chg news : List (Addr × Obj)) (n m : Nat) : Prop where
  D : Mem h₀ h chg news
  z : h.objs.size = n + m
inductive UpdX (a : Addr) (o o' : Obj) : List (Addr × Obj) → List (Addr × Obj) → Prop
  | here {r : List (Addr × Obj)} : UpdX a o o' ((a, o) :: r) ((a, o') :: r)
  | there {p : Addr × Obj} {r r' : List (Addr × Obj)} : UpdX a o o' r r' → UpdX a o o' (p :: r) (p :: r')
theorem UpdX.idx {a : Addr} {o o' : Obj} {l l' : List (Addr × Obj)} (u : UpdX a o o' l l') : ∃ i : Nat, l[i]? = some (a, o) ∧ l' = l.set i (a, o') := by
  induction u with
  | here => exact ⟨0, rfl, rfl⟩
  | there _ ih => obtain ⟨i, e, rfl⟩ := ih; exact ⟨i + 1, by simpa using e, rfl⟩
theorem xden (c : Code) : denote table c = PySem.W.XFast.xw11892475500146522536 PySem.W.XFast.tableX c := by
  rw [← PySem.W.XFast.tableX_eq, ← PySem.W.XFast.xe11892475500146522536]

noncomputable def sl : List (Option Value) → Nat → Option Value → List (Option Value)
  | [], 0, v => [v]
  | [], i + 1, v => none :: sl [] i v
  | _ :: l, 0, v => v :: l
  | x :: l, i + 1, v => x :: sl l i v
theorem sl_eq : ∀ (l : List (Option Value)) (i : Nat) (v : Option Value), (l ++ List.replicate (i + 1 - l.length) none).set i v = sl l i v
  | [], 0, v => rfl
  | [], i + 1, v => by
    have := sl_eq [] i v
    simp only [List.length_nil, Nat.sub_zero, List.nil_append] at this ⊢
    rw [List.replicate_succ, List.set_cons_succ, this]
    rfl
  | x :: l, 0, v => by simp [sl]
  | x :: l, i + 1, v => by
    have := sl_eq l i v
    rw [show i + 1 + 1 - (x :: l).length = i + 1 - l.length from by simp only [List.length_cons]; omega]
    show x :: (l ++ List.replicate (i + 1 - l.length) none).set i v = x :: sl l i v
    rw [this]
theorem sl_arr (l : List (Option Value)) (i : Nat) (v : Option Value) : (((⟨l⟩ : Array (Option Value)) ++ Array.replicate (i + 1 - (⟨l⟩ : Array (Option Value)).size) none).setIfInBounds i v) = ⟨sl l i v⟩ := by
  rw [← sl_eq]
  apply Array.toList_inj.mp
  simp

section
variable {α : Type} {prog : Program} {w : World} {A A₁ A' : Around} {c c₁ : Code} {Q : α → Shared → Prop} {E E₁ : Value → Shared → Prop} {h h₀ : Heap} {g : Array GenState} {d : Drawn} {t n m : Nat} {os : OsState} {chg news news' : List (Addr × Obj)} {s : Shared}
theorem z_rule {tag : String} {k : Unit → Sem α} (x : wpOwn (model prog w) A c (k ()) Q E s) : wpOwn (model prog w) A c (.rule tag k) Q E s := y_skim α prog w A c Q E s _ 1 x
theorem z_at {p : Pos} {k : Unit → Sem α} (x : wpOwn (model prog w) A c (k ()) Q E s) : wpOwn (model prog w) A c (.at p k) Q E s := y_skim α prog w A c Q E s _ 1 x
theorem z_point {l : List Value} {k : Unit → Sem α} (x : wpOwn (model prog w) A c (k ()) Q E s) : wpOwn (model prog w) A c (.point l k) Q E s := y_skim α prog w A c Q E s _ 1 x
theorem z_ask {k : Setting → Sem α} (x : wpOwn (model prog w) A c (k ⟨prog, w.params⟩) Q E s) : wpOwn (model prog w) A c (.ask k) Q E s := y_skim α prog w A c Q E s _ 1 x
theorem z_fresh {k : Tok → Sem α} (x : wpOwn (model prog w) A c (k t) Q E ⟨h, g, d, t + 1, os⟩) : wpOwn (model prog w) A c (.fresh k) Q E ⟨h, g, d, t, os⟩ := y_fresh α prog w A c Q E h g d t os k x
theorem z_handled {k : Option Value → Sem α} (x : wpOwn (model prog w) A c (k A.handled) Q E s) : wpOwn (model prog w) A c (.handled false k) Q E s := y_handled α prog w A c Q E s k x
theorem z_load {a : Addr} {q : Option Value} {k : Obj → Sem α} {o : Obj} (ho : h.get? a = some o) (x : wpOwn (model prog w) A c (k o) Q E ⟨h, g, d, t, os⟩) : wpOwn (model prog w) A c (.load a q k) Q E ⟨h, g, d, t, os⟩ := y_load α prog w A c Q E h g d t os a q k o ho x
theorem z_alive {a : Addr} {k : Option Obj → Sem α} {o : Obj} (ho : h.get? a = some o) (x : wpOwn (model prog w) A c (k (some o)) Q E ⟨h, g, d, t, os⟩) : wpOwn (model prog w) A c (.loadIfAlive a k) Q E ⟨h, g, d, t, os⟩ := y_alive α prog w A c Q E h g d t os a k o ho x
theorem z_alloc {o : Obj} {k : Addr → Sem α} (D : MS h₀ h chg news n m) (hf : o.isFreed = false)
    (x : ∀ a h', a = n + m → MS h₀ h' chg ((a, o) :: news) n (m + 1) → wpOwn (model prog w) A c (k a) Q E ⟨h', g, d, t, os⟩) : wpOwn (model prog w) A c (.alloc o k) Q E ⟨h, g, d, t, os⟩ :=
  wpOwn_bind (m := alloc o) (f := k) (wpOwn_of_wpAny (wpAny_alloc (x _ _ D.z ⟨D.D.alloc hf, by rw [Heap.size_push, D.z, Nat.add_assoc]⟩)))
theorem z_upd {a : Addr} {q : Option Value} {f : Obj → Obj} {k : Unit → Sem α} {o : Obj} (D : MS h₀ h chg news n m) (U : UpdX a o (f o) news news') (hf : (f o).isFreed = false)
    (x : ∀ h', MS h₀ h' chg news' n m → wpOwn (model prog w) A c (k ()) Q E ⟨h', g, d, t, os⟩) : wpOwn (model prog w) A c (.update a q f k) Q E ⟨h, g, d, t, os⟩ := by
  obtain ⟨i, e, rfl⟩ := U.idx
  exact wpOwn_bind (m := updatePart a q f) (f := k) (wpOwn_of_wpAny (wpAny_updatePart (D.D.at i a o e) (x _ ⟨D.D.update e hf, by rw [Heap.size_update]; exact D.z⟩)))
theorem z_slot {a : Addr} {q : Option Value} {k : Unit → Sem α} {c₁ : Value} {d₁ : Option Addr} {dt : Data} {l : List (Option Value)} {i : Nat} {v : Option Value} (D : MS h₀ h chg news n m) (U : UpdX a ⟨c₁, d₁, dt, ⟨l⟩⟩ ⟨c₁, d₁, dt, ⟨sl l i v⟩⟩ news news') (hf : (⟨c₁, d₁, dt, ⟨l⟩⟩ : Obj).isFreed = false)
    (x : ∀ h', MS h₀ h' chg news' n m → wpOwn (model prog w) A c (k ()) Q E ⟨h', g, d, t, os⟩) : wpOwn (model prog w) A c (.update a q (fun o => { o with slots := (o.slots ++ Array.replicate (i + 1 - o.slots.size) none).setIfInBounds i v }) k) Q E ⟨h, g, d, t, os⟩ := by
  have e : (fun o : Obj => { o with slots := (o.slots ++ Array.replicate (i + 1 - o.slots.size) none).setIfInBounds i v }) ⟨c₁, d₁, dt, ⟨l⟩⟩ = ⟨c₁, d₁, dt, ⟨sl l i v⟩⟩ := by
    show (⟨c₁, d₁, dt, _⟩ : Obj) = _
    rw [← sl_arr]
  rw [← e] at U
  exact z_upd D U (by revert hf; cases dt <;> exact id) x
theorem z_cls {a : Addr} {q : Option Value} {k : Unit → Sem α} {c₁ : Value} {d₁ : Option Addr} {cd : ClassData} {f : ClassData → ClassData} {s₁ : Array (Option Value)} (D : MS h₀ h chg news n m) (U : UpdX a ⟨c₁, d₁, .cls cd, s₁⟩ ⟨c₁, d₁, .cls (f cd), s₁⟩ news news')
    (x : ∀ h', MS h₀ h' chg news' n m → wpOwn (model prog w) A c (k ()) Q E ⟨h', g, d, t, os⟩) : wpOwn (model prog w) A c (.update a q (Obj.mapCls f) k) Q E ⟨h, g, d, t, os⟩ :=
  z_upd (f := Obj.mapCls f) D U rfl x
theorem z_grow {a : Addr} {q : Option Value} {f : Obj → Obj} {k : Unit → Sem α} {c₀ : Addr} {ps more : Array Value} (D : MS h₀ h chg news n m) (ht : h₀.TableAt c₀ a ps) (hw : away chg a = true) (hn : f (tableObj ps) = tableObj (ps ++ more))
    (x : ∀ h', MS h₀ h' ((a, tableObj (ps ++ more)) :: chg) news n m → wpOwn (model prog w) A c (k ()) Q E ⟨h', g, d, t, os⟩) : wpOwn (model prog w) A c (.update a q f k) Q E ⟨h, g, d, t, os⟩ :=
  wpOwn_bind (m := updatePart a q f) (f := k) (wpOwn_of_wpAny (wpAny_updatePart (D.D.keep a _ ht.2 (by rw [hw, Bool.or_true])) (x _ ⟨D.D.grow ht hw hn, by rw [Heap.size_update]; exact D.z⟩)))
theorem z_tab {a : Addr} {q : Option Value} {F : List Value → Option Value} {k : Unit → Sem α} {c₀ : Addr} {x1 x2 x3 : Value} (D : MS h₀ h chg news n m) (ht : h₀.TableAt c₀ a #[]) (hw : away chg a = true) (hF : F [] = none)
    (x : ∀ h', MS h₀ h' ((a, tableObj ⟨[x1, x2, x3]⟩) :: chg) news n m → wpOwn (model prog w) A c (k ()) Q E ⟨h', g, d, t, os⟩) : wpOwn (model prog w) A c (.update a q (Obj.mapFields fun vs => condFn (Array Value) (F vs.toList).isSome vs (vs ++ #[x1, x2, x3])) k) Q E ⟨h, g, d, t, os⟩ :=
  z_grow (ps := #[]) (more := #[x1, x2, x3]) D ht hw (by
    show ({ cls := .none, data := .fields (condFn (Array Value) (F []).isSome #[] (#[] ++ #[x1, x2, x3])) } : Obj) = _
    rw [hF]; rfl) x
theorem z_tabN {a : Addr} {q : Option Value} {F : List Value → Option Value} {k : Unit → Sem α} {l : List Value} {x1 x2 x3 : Value} {l' : List Value} (D : MS h₀ h chg news n m) (U : UpdX a (tableObj ⟨l⟩) (tableObj ⟨l'⟩) news news') (hl : l ++ [x1, x2, x3] = l') (hF : F l = none)
    (x : ∀ h', MS h₀ h' chg news' n m → wpOwn (model prog w) A c (k ()) Q E ⟨h', g, d, t, os⟩) : wpOwn (model prog w) A c (.update a q (Obj.mapFields fun vs => condFn (Array Value) (F vs.toList).isSome vs (vs ++ #[x1, x2, x3])) k) Q E ⟨h, g, d, t, os⟩ := by
  subst hl
  have e : (Obj.mapFields fun vs => condFn (Array Value) (F vs.toList).isSome vs (vs ++ #[x1, x2, x3])) (tableObj ⟨l⟩) = tableObj ⟨l ++ [x1, x2, x3]⟩ := by
    show ({ cls := .none, data := .fields (condFn (Array Value) (F l).isSome ⟨l⟩ (⟨l⟩ ++ #[x1, x2, x3])) } : Obj) = _
    rw [hF]
    show ({ cls := .none, data := .fields ((⟨l⟩ : Array Value) ++ #[x1, x2, x3]) } : Obj) = _
    have : ((⟨l⟩ : Array Value) ++ #[x1, x2, x3]) = ⟨l ++ [x1, x2, x3]⟩ := by simp
    rw [this]; rfl
  rw [← e] at U
  exact z_upd D U (by rw [e]; rfl) x
theorem z_stack {k : List (Code × Pos) → Sem α} (x : ∀ p below, Lies (A.under c) ((c, p) :: below) → wpOwn (model prog w) A c (k ((c, p) :: below)) Q E s) : wpOwn (model prog w) A c (.stack k) Q E s := y_stack α prog w A c Q E s k x
theorem z_call {c' : Code} {hd : Option Value} {gd : Bool} {l : List Value} {k : Result → Sem α} (hnb : hd ≠ some byPass)
    (x : wpOwn (model prog w) ((A.under c).mark hd) c' (PySem.W.XFast.xw11892475500146522536 PySem.W.XFast.tableX c') (postC prog w ((A.under c).mark hd) (postR prog w A c Q E k)) (postE (postR prog w A c Q E k)) s) : wpOwn (model prog w) A c (.call c' hd gd l k) Q E s :=
  y_call α prog w A c Q E s c' hd gd l k hnb (y_code prog w _ _ s c' (by rw [xden]; exact x))
theorem z_done {v : PySem.Fin} {f : Flow} {k : Result → Sem α} (hv : v = .done f) (x : wpOwn (model prog w) A c (k (.ok f)) Q E s) : wpOwn (model prog w) A₁ c₁ (.pure v) (postC prog w A' (postR prog w A c Q E k)) E₁ s := by
  subst hv
  exact y_pure _ prog w A₁ c₁ _ E₁ s _ (y_done prog w A' _ s f x)
theorem z_again {v : PySem.Fin} {c' : Code} {R : Result → Shared → Prop} (hv : v = .again c') (hq : c'.quiet = true) (x : wpOwn (model prog w) A' c' (PySem.W.XFast.xw11892475500146522536 PySem.W.XFast.tableX c') (postC prog w A' R) (postE R) s) : wpOwn (model prog w) A₁ c₁ (.pure v) (postC prog w A' R) E₁ s := by
  subst hv
  exact y_pure _ prog w A₁ c₁ _ E₁ s _ (y_again prog w A' R s c' hq (y_code prog w _ _ s c' (by rw [xden]; exact x)))
theorem z_raise {β : Type} {Q₁ : β → Shared → Prop} {e : Value} {k : Result → Sem α} (x : wpOwn (model prog w) A c (k (.error e)) Q E s) : wpOwn (model prog w) A₁ c₁ (.raise e : Sem β) Q₁ (postE (postR prog w A c Q E k)) s :=
  y_raise β prog w A₁ c₁ Q₁ _ s e x
theorem z_end {v : PySem.Fin} {f : Flow} {u : α} {k : Result → Sem α} (hv : v = .done f) (hk : k (.ok f) = .pure u) (x : Q u s) : wpOwn (model prog w) A₁ c₁ (.pure v) (postC prog w A' (postA prog w A Q E k)) E₁ s := by
  subst hv
  refine y_pure _ prog w A₁ c₁ _ E₁ s _ (y_done prog w A' _ s f ?_)
  show wpAny (model prog w) A (k (.ok f)) Q E s
  rw [hk]
  exact wpAny_pure x
theorem z_start {c' : Code} {hd : Option Value} {gd : Bool} {l : List Value} {k : Result → Sem α} (hnb : hd ≠ some byPass)
    (x : wpOwn (model prog w) (A.mark hd) c' (PySem.W.XFast.xw11892475500146522536 PySem.W.XFast.tableX c') (postC prog w (A.mark hd) (postA prog w A Q E k)) (postE (postA prog w A Q E k)) s) : wpAny (model prog w) A (.call c' hd gd l k) Q E s :=
  y_start α prog w A Q E s c' hd gd l k hnb (y_code prog w _ _ s c' (by rw [xden]; exact x))
end
section
variable {α β : Type} {M : Model} {A : Around} {c : Code} {Q : α → Shared → Prop} {E : Value → Shared → Prop} {s : Shared}
theorem z_bind {m : Sem β} {f : β → Sem α} (x : wpOwn M A c m (fun a s' => wpOwn M A c (f a) Q E s') E s) : wpOwn M A c (Sem.bind m f) Q E s := wpOwn_bind x
theorem z_try {m : Sem α} {k : Value → Sem α} (x : wpOwn M A c m Q (fun e s' => wpOwn M A c (k e) Q E s') s) : wpOwn M A c (Sem.tryCatch m k) Q E s := fun Γ p hc hΓ => by
  rw [Sem.wp_tryCatch]
  exact Sem.wp_mono M Γ m (fun _ _ _ h' => h') (fun e p' s' h' => h' Γ p' hc hΓ) p s (x Γ p hc hΓ)
theorem z_onRaise {m : Sem α} {k : Value → Sem Unit} (x : wpOwn M A c m Q (fun e s' => wpOwn M A c (k e) (fun _ s'' => E e s'') E s') s) : wpOwn M A c (m.onRaise k) Q E s := fun Γ p hc hΓ => by
  rw [Sem.wp_onRaise]
  exact Sem.wp_mono M Γ m (fun _ _ _ h' => h') (fun e p' s' h' => h' Γ p' hc hΓ) p s (x Γ p hc hΓ)
theorem z_keep {vs : List Value} {m : Sem α} (x : wpOwn M A c m Q E s) : wpOwn M A c (m.keep vs) Q E s := fun Γ p hc hΓ => by rw [Sem.wp_keep]; exact x Γ p hc hΓ
theorem z_pure0 {a : α} (x : Q a s) : wpOwn M A c (.pure a) Q E s := fun _ _ _ _ => x
theorem z_raise0 {e : Value} (x : E e s) : wpOwn M A c (.raise e) Q E s := fun _ _ _ _ => x
theorem z_cond_f {b : Bool} {t u : Sem α} (h : b = false) (x : wpOwn M A c u Q E s) : wpOwn M A c (cond b t u) Q E s := by subst h; exact x
theorem z_cond_t {b : Bool} {t u : Sem α} (h : b = true) (x : wpOwn M A c t Q E s) : wpOwn M A c (cond b t u) Q E s := by subst h; exact x
theorem z_cm_f {b : Bool} {f g : Unit → Sem α} (h : b = false) (x : wpOwn M A c (g ()) Q E s) : wpOwn M A c (cond.match_1 (fun _ => Sem α) b f g) Q E s := by subst h; exact x
theorem z_cm_t {b : Bool} {f g : Unit → Sem α} (h : b = true) (x : wpOwn M A c (f ()) Q E s) : wpOwn M A c (cond.match_1 (fun _ => Sem α) b f g) Q E s := by subst h; exact x
theorem z_brec_f {b : Bool} {f g : Sem α} (h : b = false) (x : wpOwn M A c f Q E s) : wpOwn M A c (@Bool.rec (fun _ => Sem α) f g b) Q E s := by subst h; exact x
theorem z_brec_t {b : Bool} {f g : Sem α} (h : b = true) (x : wpOwn M A c g Q E s) : wpOwn M A c (@Bool.rec (fun _ => Sem α) f g b) Q E s := by subst h; exact x
theorem z_ca1n {F : Option Value} {f : Value → Sem α} {g : Option Value → Sem α} (h : F = none) (x : wpOwn M A c (g none) Q E s) : wpOwn M A c (codeAt.match_1 (fun _ => Sem α) F f g) Q E s := by subst h; exact x
theorem z_ca1s {F : Option Value} {v : Value} {f : Value → Sem α} {g : Option Value → Sem α} (h : F = some v) (x : wpOwn M A c (f v) Q E s) : wpOwn M A c (codeAt.match_1 (fun _ => Sem α) F f g) Q E s := by subst h; exact x
theorem z_ca4n {F : Option Value} {f : Value → Sem α} {g : Unit → Sem α} (h : F = none) (x : wpOwn M A c (g ()) Q E s) : wpOwn M A c (codeAt.match_4 (fun _ => Sem α) F f g) Q E s := by subst h; exact x
theorem z_ca4s {F : Option Value} {v : Value} {f : Value → Sem α} {g : Unit → Sem α} (h : F = some v) (x : wpOwn M A c (f v) Q E s) : wpOwn M A c (codeAt.match_4 (fun _ => Sem α) F f g) Q E s := by subst h; exact x
theorem z_loop {γ δ : Type} {as as' l : List γ} {f : (a : γ) → a ∈ as → δ → Sem (ForInStep δ)} {b : δ} {p : ∃ bs, bs ++ as' = as} {Q : δ → Shared → Prop} (h : as' = l) (x : ∀ p', wpOwn M A c (List.forIn'.loop as f l b p') Q E s) : wpOwn M A c (List.forIn'.loop as f as' b p) Q E s := by
  subst h
  exact x p
theorem z_condFn_f {b : Bool} {t u : Sem α} (h : b = false) (x : wpOwn M A c u Q E s) : wpOwn M A c (condFn (Sem α) b t u) Q E s := by subst h; exact x
theorem z_condFn_t {b : Bool} {t u : Sem α} (h : b = true) (x : wpOwn M A c t Q E s) : wpOwn M A c (condFn (Sem α) b t u) Q E s := by subst h; exact x
theorem z_cnndFn_f {b : Bool} {t u : Sem α} (h : b = false) (x : wpOwn M A c t Q E s) : wpOwn M A c (cnndFn (Sem α) b t u) Q E s := by subst h; exact x
theorem z_cnndFn_t {b : Bool} {t u : Sem α} (h : b = true) (x : wpOwn M A c u Q E s) : wpOwn M A c (cnndFn (Sem α) b t u) Q E s := by subst h; exact x
theorem z_ite_t {p : Prop} {dp : Decidable p} {t u : Sem α} (h : p) (x : wpOwn M A c t Q E s) : wpOwn M A c (@ite _ p dp t u) Q E s := by rw [if_pos h]; exact x
theorem z_ite_f {p : Prop} {dp : Decidable p} {t u : Sem α} (h : ¬ p) (x : wpOwn M A c u Q E s) : wpOwn M A c (@ite _ p dp t u) Q E s := by rw [if_neg h]; exact x
end
theorem memNew {h₀ h : Heap} {chg news : List (Addr × Obj)} {n m : Nat} (D : MS h₀ h chg news n m) {a : Addr} {o : Obj} (hm : (a, o) ∈ news) : h.get? a = some o := (D.D.nw _ hm).1
theorem memChg {h₀ h : Heap} {chg news : List (Addr × Obj)} {n m : Nat} (D : MS h₀ h chg news n m) {a : Addr} {o : Obj} (hm : (a, o) ∈ chg) : h.get? a = some o := (D.D.ch _ hm).1
theorem memOld {h₀ h : Heap} {chg news : List (Addr × Obj)} {n m : Nat} (D : MS h₀ h chg news n m) {a : Addr} {o : Obj} (e : h₀.get? a = some o) (q : (hasCls o || away chg a) = true) : h.get? a = some o := D.D.keep _ _ e q

theorem caX_nil {pos : Pos} : PySem.W.XFast.xw7104952167334194321 pos [] = none := by rw [← PySem.W.XFast.xe7104952167334194321]; rfl
theorem caX_ne {pos : Pos} {a b : Int} {v : Value} {r : List Value} (h : (a == (pos.line : Int) && b == (pos.col : Int)) = false) : PySem.W.XFast.xw7104952167334194321 pos (rawInt a :: rawInt b :: v :: r) = PySem.W.XFast.xw7104952167334194321 pos r := by
  rw [← PySem.W.XFast.xe7104952167334194321]
  show (if (a == (pos.line : Int) && b == (pos.col : Int)) = true then some v else codeAmong pos r) = _
  rw [h]; rfl
theorem caX_eq {pos : Pos} {a b : Int} {v : Value} {r : List Value} (h : (a == (pos.line : Int) && b == (pos.col : Int)) = true) : PySem.W.XFast.xw7104952167334194321 pos (rawInt a :: rawInt b :: v :: r) = some v := by
  rw [← PySem.W.XFast.xe7104952167334194321]
  show (if (a == (pos.line : Int) && b == (pos.col : Int)) = true then some v else codeAmong pos r) = _
  rw [h]; rfl
theorem addr_ne {a b : Nat} (h : a ≠ b) : (@BEq.beq Addr (@instBEqOfDecidableEq Addr instDecidableEqNat) a b) = false := beq_eq_false_iff_ne.mpr h
theorem addr_big {a n m b : Nat} (ha : a = n + m) (hn : 119 < n) (hb : Nat.ble b 119 = true) : a ≠ b := by
  have := Nat.le_of_ble_eq_true hb
  omega
theorem addr_two {a x n i j : Nat} (ha : a = n + i) (hx : x = n + j) (h : Nat.beq i j = false) : a ≠ x := by
  have := Nat.ne_of_beq_eq_false h
  omega
theorem or_ff {b c : Bool} (h1 : b = false) (h2 : c = false) : (Bool.or b c) = false := by subst h1 h2; rfl
theorem or_t1 {b c : Bool} (h1 : b = true) : (Bool.or b c) = true := by subst h1; rfl
theorem or_t2 {b c : Bool} (h1 : c = true) : (Bool.or b c) = true := by subst h1; simp
theorem and_f1 {b c : Bool} (h1 : b = false) : (Bool.and b c) = false := by subst h1; rfl
theorem and_f2 {b c : Bool} (h1 : c = false) : (Bool.and b c) = false := by subst h1; simp
theorem and_tt {b c : Bool} (h1 : b = true) (h2 : c = true) : (Bool.and b c) = true := by subst h1 h2; rfl
theorem not_f {b : Bool} (h1 : b = true) : (Bool.not b) = false := by subst h1; rfl
theorem not_t {b : Bool} (h1 : b = false) : (Bool.not b) = true := by subst h1; rfl
theorem sameRef_ne {a x : Nat} {v : Value} (hv : v = .ref x) (h : a ≠ x) : PySem.Builtin.List.listSameRef (.ref a) v = false := by
  subst hv
  show (a == x) = false
  exact beq_eq_false_iff_ne.mpr h
theorem v_ne {d : DecidableEq Value} {v u : Value} {x y : Nat} (hv : v = .ref x) (hu : u = .ref y) (h : x ≠ y) : (@BEq.beq Value (@instBEqOfDecidableEq Value d) v u) = false := by
  subst hv hu
  exact beq_eq_false_iff_ne.mpr fun e => h (Value.ref.inj e)
theorem v_eq {d : DecidableEq Value} {v u : Value} (h : v = u) : (@BEq.beq Value (@instBEqOfDecidableEq Value d) v u) = true := by
  subst h
  exact beq_self_eq_true v
theorem fl1 {d : DecidableEq Value} {a : Nat} {l : List Value} : List.filter (fun x => @bne Value (@instBEqOfDecidableEq Value d) x (.ref a)) (.ref a :: l) = List.filter (fun x => @bne Value (@instBEqOfDecidableEq Value d) x (.ref a)) l := by
  rw [List.filter_cons_of_neg]
  simp
theorem fl2 {d : DecidableEq Value} {a : Nat} {n : String} {l : List Value} : List.filter (fun x => @bne Value (@instBEqOfDecidableEq Value d) x (.ref a)) (.type n :: l) = .type n :: List.filter (fun x => @bne Value (@instBEqOfDecidableEq Value d) x (.ref a)) l := by
  rw [List.filter_cons_of_pos]
  simp
theorem dw1 {d : DecidableEq Value} {a : Nat} {l : List Value} : List.dropWhile (fun x => @bne Value (@instBEqOfDecidableEq Value d) x (.ref a)) (.ref a :: l) = .ref a :: l := by
  rw [List.dropWhile_cons_of_neg]
  simp
theorem dw2 {d : DecidableEq Value} {e : Value} {l r : List Value} {a : Nat} (he : e = .ref a) (hl : l = .ref a :: r) : List.drop 1 (List.dropWhile (fun x => @bne Value (@instBEqOfDecidableEq Value d) x e) l) = r := by
  subst he hl
  rw [dw1]; rfl
theorem ad_same (a : Nat) : oAd.1 a a = .isTrue rfl := Subsingleton.elim _ _
theorem ad_ne {a b : Nat} (h : a ≠ b) : oAd.1 a b = .isFalse h := Subsingleton.elim _ _
theorem lt_t {a b : Int} (h : a < b) : oLt.1 a b = .isTrue h := Subsingleton.elim _ _
theorem lt_f {a b : Int} (h : ¬ a < b) : oLt.1 a b = .isFalse h := Subsingleton.elim _ _
theorem le_t {a b : Int} (h : a ≤ b) : oLe.1 a b = .isTrue h := Subsingleton.elim _ _
theorem le_f {a b : Int} (h : ¬ a ≤ b) : oLe.1 a b = .isFalse h := Subsingleton.elim _ _
theorem eq_t {a b : Int} (h : a = b) : oEq.1 a b = .isTrue h := Subsingleton.elim _ _
theorem eq_f {a b : Int} (h : ¬ a = b) : oEq.1 a b = .isFalse h := Subsingleton.elim _ _
end Mine
end
section
open PySem PySem.W PyProof.Rows PySem.Calls PySem.W.X
set_option maxRecDepth 100000
namespace Mine
@[irreducible] noncomputable def ad (n m : Nat) : Nat := n + m
theorem ad_eq (n m : Nat) : ad n m = n + m := by unfold ad; rfl
theorem adn_ne {n i j : Nat} (h : Nat.beq i j = false) : ad n i ≠ ad n j := by
  rw [ad_eq, ad_eq]
  have : i ≠ j := Nat.ne_of_beq_eq_false h
  omega
theorem adn_big {n i b : Nat} (hn : 119 < n) (h : Nat.ble b 119 = true) : ad n i ≠ b := by
  rw [ad_eq]
  have := Nat.le_of_ble_eq_true h
  omega
theorem adn_old {n n' i j : Nat} (h : n + 63 < n') (hi : Nat.ble i 63 = true) : ad n i ≠ ad n' j := by
  rw [ad_eq, ad_eq]
  have := Nat.le_of_ble_eq_true hi
  omega
inductive Stk where
  | base (R : Result → Shared → Prop)
  | call (A : Around) (c : Code) (k : Result → Sem PySem.Fin) (r : Stk)
structure Cx where
  prog : Program
  w : World
  h₀ : Heap
  g : Array GenState
  d : Drawn
  os : OsState
  olds : List (Addr × Obj)
noncomputable def Stk.den (X : Cx) : Stk → Result → Shared → Prop
  | .base R => R
  | .call A c k r => fun q s' => wpOwn (model X.prog X.w) A c (k q) (postC X.prog X.w A (r.den X)) (postE (r.den X)) s'
noncomputable def WS (X : Cx) (n t0 : Nat) (chg : List (Addr × Obj)) (A : Around) (c : Code) (k : Stk) (news : List (Addr × Obj)) (m i : Nat) (t : Sem PySem.Fin) : Prop :=
  ∀ h, MS X.h₀ h chg news n m → wpOwn (model X.prog X.w) A c t (postC X.prog X.w A (k.den X)) (postE (k.den X)) ⟨h, X.g, X.d, ad t0 i, X.os⟩
noncomputable def code2 (c : Code) : Sem PySem.Fin := PySem.W.XFast.xw11892475500146522536 PySem.W.XFast.tableX c
noncomputable def quiet2 (c : Code) : Bool := PySem.W.ZFast.zw17772548960776305114 c
theorem quiet2_eq (c : Code) : c.quiet = quiet2 c := by rw [PySem.W.ZFast.ze17772548960776305114]; rfl
noncomputable def qall (l : List Code) : Bool := l.all quiet2
noncomputable def go2 (X : Cx) (n t0 : Nat) (K : Around → Code → Stk → List Addr → List Addr → Bool → List Code → List (Addr × Obj) → Nat → Nat → Sem PySem.Fin → Prop) :
    Nat → List (Bool × Nat) → Around → Code → Stk → List Addr → List Addr → Bool → List Code → List (Addr × Obj) → Nat → Nat → Sem PySem.Fin → Prop
  | 0, _, A, c, k, as, bs, fr, qs, news, m, i, t => K A c k as bs fr qs news m i t
  | f + 1, hs, A, c, st, as, bs, fr, qs, news, m, i, t => match t with
    | .rule _ k => go2 X n t0 K f hs A c st as bs fr qs news m i (k ())
    | .at _ k => go2 X n t0 K f hs A c st as bs fr qs news m i (k ())
    | .point _ k => go2 X n t0 K f hs A c st as bs fr qs news m i (k ())
    | .ask k => go2 X n t0 K f hs A c st as bs fr qs news m i (k ⟨X.prog, X.w.params⟩)
    | .handled false k => go2 X n t0 K f hs A c st as bs fr qs news m i (k A.handled)
    | .fresh k => go2 X n t0 K f hs A c st as bs fr qs news m (i + 1) (k (ad t0 i))
    | .alloc o k => go2 X n t0 K f hs A c st as bs (o.isFreed || fr) qs ((ad n m, o) :: news) (m + 1) i (k (ad n m))
    | .pure (.done q) => match st with
      | .call A' c' k r => go2 X n t0 K f hs A' c' r as bs fr qs news m i (k (.ok q))
      | .base _ => K A c st as bs fr qs news m i (.pure (.done q))
    | .pure (.again c') => go2 X n t0 K f hs A c' st as bs fr (c' :: qs) news m i (code2 c')
    | .raise e => match st with
      | .call A' c' k r => go2 X n t0 K f hs A' c' r as bs fr qs news m i (k (.error e))
      | .base _ => K A c st as bs fr qs news m i (.raise e)
    | .call c' none gd l k => go2 X n t0 K f hs ((A.under c).mark none) c' (.call A c k st) as bs fr qs news m i (code2 c')
    | .load a p k => match hs with
      | [] => K A c st as bs fr qs news m i (.load a p k)
      | (b, j) :: hs' => match (match b with | true => X.olds[j]? | false => news[j]?) with
        | some q => go2 X n t0 K f hs' A c st (a :: as) (q.1 :: bs) fr qs news m i (k q.2)
        | none => K A c st as bs fr qs news m i (.load a p k)
    | .loadIfAlive a k => match hs with
      | [] => K A c st as bs fr qs news m i (.loadIfAlive a k)
      | (b, j) :: hs' => match (match b with | true => X.olds[j]? | false => news[j]?) with
        | some q => go2 X n t0 K f hs' A c st (a :: as) (q.1 :: bs) fr qs news m i (k (some q.2))
        | none => K A c st as bs fr qs news m i (.loadIfAlive a k)
    | .update a p fn k => match hs with
      | [] => K A c st as bs fr qs news m i (.update a p fn k)
      | (_, j) :: hs' => match news[j]? with
        | some q => go2 X n t0 K f hs' A c st (a :: as) (q.1 :: bs) ((fn q.2).isFreed || fr) qs (news.set j (q.1, fn q.2)) m i (k ())
        | none => K A c st as bs fr qs news m i (.update a p fn k)
    | t => K A c st as bs fr qs news m i t
theorem qall_cons {c : Code} {l : List Code} (h : qall (c :: l) = true) : quiet2 c = true ∧ qall l = true := by simpa [qall] using h
theorem fr_or {a b : Bool} (h : (a || b) = false) : a = false ∧ b = false := by cases a <;> cases b <;> simp_all
theorem get_news {h₀ : Heap} {chg : List (Addr × Obj)} {n : Nat} {news : List (Addr × Obj)} {j : Nat} {q : Addr × Obj} {h : Heap} {m : Nat} (D : MS h₀ h chg news n m) (e : news[j]? = some q) : h.get? q.1 = some q.2 := D.D.at j q.1 q.2 e
theorem tok_up (t0 i : Nat) : ad t0 (i + 1) = ad t0 i + 1 := by rw [ad_eq, ad_eq, Nat.add_assoc]
theorem code2_eq (c : Code) : denote table c = code2 c := xden c
section
variable {X : Cx} {n t0 : Nat} {chg : List (Addr × Obj)} {A : Around} {c : Code} {st : Stk} {news news' : List (Addr × Obj)} {m i : Nat}
theorem ws_code {A' : Around} {c' : Code} {R : Result → Shared → Prop} {s : Shared} (x : wpOwn (model X.prog X.w) A' c' (code2 c') (postC X.prog X.w A' R) (postE R) s) : codeAny (model X.prog X.w) A' c' R s :=
  y_code X.prog X.w A' R s c' (by rw [code2_eq]; exact x)
theorem go2_sound (ho : ∀ q ∈ X.olds, X.h₀.get? q.1 = some q.2 ∧ (hasCls q.2 || away chg q.1) = true) :
    ∀ f hs A c st as bs fr qs (news : List (Addr × Obj)) m i (t : Sem PySem.Fin), go2 X n t0 (fun A c st as bs fr qs news m i t => bs = as ∧ fr = false ∧ qall qs = true ∧ WS X n t0 chg A c st news m i t) f hs A c st as bs fr qs news m i t →
      bs = as ∧ fr = false ∧ qall qs = true ∧ WS X n t0 chg A c st news m i t := by
  intro f
  induction f with
  | zero => intro hs A c st as bs fr qs news m i t h; exact h
  | succ f ih =>
    intro hs A c st as bs fr qs news m i t h
    cases t with
    | rule tg k => obtain ⟨a, b, y, x⟩ := ih _ _ _ _ _ _ _ _ _ _ _ _ h; exact ⟨a, b, y, fun hp D => z_rule (x hp D)⟩
    | «at» q k => obtain ⟨a, b, y, x⟩ := ih _ _ _ _ _ _ _ _ _ _ _ _ h; exact ⟨a, b, y, fun hp D => z_at (x hp D)⟩
    | point l k => obtain ⟨a, b, y, x⟩ := ih _ _ _ _ _ _ _ _ _ _ _ _ h; exact ⟨a, b, y, fun hp D => z_point (x hp D)⟩
    | ask k => obtain ⟨a, b, y, x⟩ := ih _ _ _ _ _ _ _ _ _ _ _ _ h; exact ⟨a, b, y, fun hp D => z_ask (x hp D)⟩
    | handled own k =>
      cases own with
      | false => obtain ⟨a, b, y, x⟩ := ih _ _ _ _ _ _ _ _ _ _ _ _ h; exact ⟨a, b, y, fun hp D => z_handled (x hp D)⟩
      | true => exact h
    | fresh k => obtain ⟨a, b, y, x⟩ := ih _ _ _ _ _ _ _ _ _ _ _ _ h; exact ⟨a, b, y, fun hp D => z_fresh (by have := x hp D; rwa [tok_up] at this)⟩
    | alloc o k =>
      obtain ⟨a, b, y, x⟩ := ih _ _ _ _ _ _ _ _ _ _ _ _ h
      obtain ⟨b1, b2⟩ := fr_or b
      refine ⟨a, b2, y, fun hp D => z_alloc D b1 fun a' h' e D' => ?_⟩
      rw [← ad_eq] at e
      subst e
      exact x h' D'
    | pure v =>
      cases v with
      | done q =>
        cases st with
        | base R => exact h
        | call A' c' k r => obtain ⟨a, b, y, x⟩ := ih _ _ _ _ _ _ _ _ _ _ _ _ h; exact ⟨a, b, y, fun hp D => y_pure _ _ _ _ _ _ _ _ _ (x hp D)⟩
      | again c' =>
        obtain ⟨a, b, y, x⟩ := ih _ _ _ _ _ _ _ _ _ _ _ _ h
        obtain ⟨y1, y2⟩ := qall_cons y
        exact ⟨a, b, y2, fun hp D => y_pure _ _ _ _ _ _ _ _ _ ⟨(quiet2_eq c').trans y1, ws_code (x hp D)⟩⟩
    | raise e =>
      cases st with
      | base R => exact h
      | call A' c' k r => obtain ⟨a, b, y, x⟩ := ih _ _ _ _ _ _ _ _ _ _ _ _ h; exact ⟨a, b, y, fun hp D => y_raise _ _ _ _ _ _ _ _ _ (x hp D)⟩
    | call c' hd gd l k =>
      cases hd with
      | some v => exact h
      | none =>
        obtain ⟨a, b, y, x⟩ := ih _ _ _ _ _ _ _ _ _ _ _ _ h
        exact ⟨a, b, y, fun hp D => y_call _ _ _ _ _ _ _ _ _ _ _ _ _ (by intro z; cases z) (ws_code (x hp D))⟩
    | load a0 p k =>
      cases hs with
      | nil => exact h
      | cons hj hs' =>
        obtain ⟨b, j⟩ := hj
        cases b with
        | true =>
          cases e : X.olds[j]? with
          | none => simp only [go2, e] at h; exact h
          | some q =>
            simp only [go2, e] at h
            obtain ⟨a, b, y, x⟩ := ih _ _ _ _ _ _ _ _ _ _ _ _ h
            obtain ⟨a1, a2⟩ := List.cons.inj a
            obtain ⟨e1, e2⟩ := ho q (List.mem_of_getElem? e)
            exact ⟨a2, b, y, fun hp D => z_load (memOld D (by rw [← a1]; exact e1) (by rw [← a1]; exact e2)) (x hp D)⟩
        | false =>
          cases e : news[j]? with
          | none => simp only [go2, e] at h; exact h
          | some q =>
            simp only [go2, e] at h
            obtain ⟨a, b, y, x⟩ := ih _ _ _ _ _ _ _ _ _ _ _ _ h
            obtain ⟨a1, a2⟩ := List.cons.inj a
            exact ⟨a2, b, y, fun hp D => z_load (by rw [← a1]; exact get_news D e) (x hp D)⟩
    | loadIfAlive a0 k =>
      cases hs with
      | nil => exact h
      | cons hj hs' =>
        obtain ⟨b, j⟩ := hj
        cases b with
        | true =>
          cases e : X.olds[j]? with
          | none => simp only [go2, e] at h; exact h
          | some q =>
            simp only [go2, e] at h
            obtain ⟨a, b, y, x⟩ := ih _ _ _ _ _ _ _ _ _ _ _ _ h
            obtain ⟨a1, a2⟩ := List.cons.inj a
            obtain ⟨e1, e2⟩ := ho q (List.mem_of_getElem? e)
            exact ⟨a2, b, y, fun hp D => z_alive (memOld D (by rw [← a1]; exact e1) (by rw [← a1]; exact e2)) (x hp D)⟩
        | false =>
          cases e : news[j]? with
          | none => simp only [go2, e] at h; exact h
          | some q =>
            simp only [go2, e] at h
            obtain ⟨a, b, y, x⟩ := ih _ _ _ _ _ _ _ _ _ _ _ _ h
            obtain ⟨a1, a2⟩ := List.cons.inj a
            exact ⟨a2, b, y, fun hp D => z_alive (by rw [← a1]; exact get_news D e) (x hp D)⟩
    | update a0 p fn k =>
      cases hs with
      | nil => exact h
      | cons hj hs' =>
        obtain ⟨b, j⟩ := hj
        cases e : news[j]? with
        | none => simp only [go2, e] at h; exact h
        | some q =>
          simp only [go2, e] at h
          obtain ⟨a, b, y, x⟩ := ih _ _ _ _ _ _ _ _ _ _ _ _ h
          obtain ⟨a1, a2⟩ := List.cons.inj a
          obtain ⟨b1, b2⟩ := fr_or b
          refine ⟨a2, b2, y, fun hp D => ?_⟩
          rw [← a1]
          exact wpOwn_bind (m := updatePart q.1 p fn) (f := k) (wpOwn_of_wpAny (wpAny_updatePart (get_news D e) (x _ ⟨D.D.update e b1, by rw [Heap.size_update]; exact D.z⟩)))
    | _ => exact h
theorem go2_run {A' : Around} {c' : Code} {st' : Stk} {m' i' : Nat} {t t' : Sem PySem.Fin} {bs : List Addr} {qs : List Code} (f : Nat) (hs : List (Bool × Nat)) (ho : ∀ q ∈ X.olds, X.h₀.get? q.1 = some q.2 ∧ (hasCls q.2 || away chg q.1) = true)
   (h : go2 X n t0 (fun A c st as bs fr qs news m i t => bs = as ∧ fr = false ∧ qall qs = true ∧ WS X n t0 chg A c st news m i t) f hs A c st [] [] false [] news m i t = (bs = bs ∧ false = false ∧ qall qs = true ∧ WS X n t0 chg A' c' st' news' m' i' t'))
   (hq : qall qs = true) (x : WS X n t0 chg A' c' st' news' m' i' t') : WS X n t0 chg A c st news m i t :=
  (go2_sound ho f hs A c st [] [] false [] news m i t (h ▸ ⟨rfl, rfl, hq, x⟩)).2.2.2
end
end Mine
end
section
open PySem PySem.W PyProof.Rows PySem.Calls PySem.W.X
set_option maxRecDepth 100000
namespace Mine
section
variable {α β : Type} {X : Cx} {n t0 : Nat} {chg news news' : List (Addr × Obj)} {A A' : Around} {c c' : Code} {st : Stk} {m i : Nat}
theorem ws_start {prog : Program} {w : World} {Q : α → Shared → Prop} {E : Value → Shared → Prop} {h₀ : Heap} {g : Array GenState} {d : Drawn} {os : OsState} {n t0 : Nat} {gd : Bool} {l : List Value} {k : Result → Sem α} (olds : List (Addr × Obj)) (en : h₀.objs.size = n)
    (x : WS ⟨prog, w, h₀, g, d, os, olds⟩ n t0 [] (A.mark none) c' (.base (postA prog w A Q E k)) [] 0 0 (code2 c')) : wpAny (model prog w) A (.call c' none gd l k) Q E ⟨h₀, g, d, t0, os⟩ := by
  have z := x h₀ ⟨Mem.start h₀, en⟩
  have z2 : ad t0 0 = t0 := ad_eq t0 0
  rw [z2] at z
  exact y_start α prog w A Q E _ c' none gd l k (by intro q; cases q) (ws_code (X := ⟨prog, w, h₀, g, d, os, olds⟩) z)
theorem ws_end {prog : Program} {w : World} {Q : α → Shared → Prop} {E : Value → Shared → Prop} {h₀ : Heap} {g : Array GenState} {d : Drawn} {os : OsState} {n t0 : Nat} {k : Result → Sem α} {olds : List (Addr × Obj)} {f : Flow} {u : α} (hk : k (.ok f) = .pure u)
    (x : ∀ h, MS h₀ h chg news n m → Q u ⟨h, g, d, ad t0 i, os⟩) : WS ⟨prog, w, h₀, g, d, os, olds⟩ n t0 chg A c (.base (postA prog w A' Q E k)) news m i (.pure (.done f)) := fun h D =>
  y_pure _ _ _ _ _ _ _ _ _ (show wpAny (model prog w) A' (k (.ok f)) Q E _ by rw [hk]; exact wpAny_pure (x h D))
theorem ws_tree {t u : Sem PySem.Fin} (h : t = u) (x : WS X n t0 chg A c st news m i u) : WS X n t0 chg A c st news m i t := by subst h; exact x
theorem ws_stack {k : List (Code × Pos) → Sem PySem.Fin} (x : ∀ p below, Lies (A.under c) ((c, p) :: below) → WS X n t0 chg A c st news m i (k ((c, p) :: below))) : WS X n t0 chg A c st news m i (.stack k) := fun h D => z_stack fun p below l => x p below l h D
theorem ws_load {a : Addr} {q : Option Value} {k : Obj → Sem PySem.Fin} {o : Obj} (e : X.h₀.get? a = some o) (hw : (hasCls o || away chg a) = true) (x : WS X n t0 chg A c st news m i (k o)) : WS X n t0 chg A c st news m i (.load a q k) := fun h D => z_load (memOld D e hw) (x h D)
theorem ws_loadChg {a : Addr} {o : Obj} {r : List (Addr × Obj)} {q : Option Value} {k : Obj → Sem PySem.Fin} (x : WS X n t0 ((a, o) :: r) A c st news m i (k o)) : WS X n t0 ((a, o) :: r) A c st news m i (.load a q k) := fun h D => z_load (memChg D (.head _)) (x h D)
theorem ws_tab {a : Addr} {q : Option Value} {F : List Value → Option Value} {k : Unit → Sem PySem.Fin} {c₀ : Addr} {x1 x2 x3 : Value} (ht : X.h₀.TableAt c₀ a #[]) (hw : away chg a = true) (hF : F [] = none)
    (x : WS X n t0 ((a, tableObj ⟨[x1, x2, x3]⟩) :: chg) A c st news m i (k ())) : WS X n t0 chg A c st news m i (.update a q (Obj.mapFields fun vs => condFn (Array Value) (F vs.toList).isSome vs (vs ++ #[x1, x2, x3])) k) := fun h D => z_tab D ht hw hF fun h' D' => x h' D'
theorem ws_tabI (j : Nat) {a : Addr} {q : Option Value} {F : List Value → Option Value} {k : Unit → Sem PySem.Fin} {l : List Value} {x1 x2 x3 : Value} (hj : news[j]? = some (a, tableObj ⟨l⟩)) (hF : F l = none)
    (x : WS X n t0 chg A c st (news.set j (a, tableObj ⟨l ++ [x1, x2, x3]⟩)) m i (k ())) : WS X n t0 chg A c st news m i (.update a q (Obj.mapFields fun vs => condFn (Array Value) (F vs.toList).isSome vs (vs ++ #[x1, x2, x3])) k) := fun h D => by
  have e : (Obj.mapFields fun vs => condFn (Array Value) (F vs.toList).isSome vs (vs ++ #[x1, x2, x3])) (tableObj ⟨l⟩) = tableObj ⟨l ++ [x1, x2, x3]⟩ := by
    show ({ cls := .none, data := .fields (condFn (Array Value) (F l).isSome ⟨l⟩ (⟨l⟩ ++ #[x1, x2, x3])) } : Obj) = _
    rw [hF]
    show ({ cls := .none, data := .fields ((⟨l⟩ : Array Value) ++ #[x1, x2, x3]) } : Obj) = _
    have : ((⟨l⟩ : Array Value) ++ #[x1, x2, x3]) = ⟨l ++ [x1, x2, x3]⟩ := by simp
    rw [this]; rfl
  have hf : ((Obj.mapFields fun vs => condFn (Array Value) (F vs.toList).isSome vs (vs ++ #[x1, x2, x3])) (tableObj ⟨l⟩)).isFreed = false := by rw [e]; rfl
  have D2 := D.D.update hj hf
  rw [e] at D2
  exact wpOwn_bind (m := updatePart a q _) (f := k) (wpOwn_of_wpAny (wpAny_updatePart (D.D.at j a _ hj) (x _ ⟨D2, by rw [Heap.size_update]; exact D.z⟩)))
theorem ws_slotI (j : Nat) {a : Addr} {q : Option Value} {k : Unit → Sem PySem.Fin} {c₁ : Value} {d₁ : Option Addr} {dt : Data} {l : List (Option Value)} {i0 : Nat} {v : Option Value} (hj : news[j]? = some (a, ⟨c₁, d₁, dt, ⟨l⟩⟩)) (hf : (⟨c₁, d₁, dt, ⟨l⟩⟩ : Obj).isFreed = false)
    (x : WS X n t0 chg A c st (news.set j (a, ⟨c₁, d₁, dt, ⟨sl l i0 v⟩⟩)) m i (k ())) : WS X n t0 chg A c st news m i (.update a q (fun o => { o with slots := (o.slots ++ Array.replicate (i0 + 1 - o.slots.size) none).setIfInBounds i0 v }) k) := fun h D => by
  have e : (fun o : Obj => { o with slots := (o.slots ++ Array.replicate (i0 + 1 - o.slots.size) none).setIfInBounds i0 v }) ⟨c₁, d₁, dt, ⟨l⟩⟩ = ⟨c₁, d₁, dt, ⟨sl l i0 v⟩⟩ := by
    show (⟨c₁, d₁, dt, _⟩ : Obj) = _
    rw [← sl_arr]
  have hf' : ((fun o : Obj => { o with slots := (o.slots ++ Array.replicate (i0 + 1 - o.slots.size) none).setIfInBounds i0 v }) ⟨c₁, d₁, dt, ⟨l⟩⟩).isFreed = false := by revert hf; cases dt <;> exact id
  have D2 : Mem X.h₀ (h.update a (fun o : Obj => { o with slots := (o.slots ++ Array.replicate (i0 + 1 - o.slots.size) none).setIfInBounds i0 v })) chg (news.set j (a, ⟨c₁, d₁, dt, ⟨sl l i0 v⟩⟩)) := by
    rw [← e]
    exact D.D.update hj hf'
  exact wpOwn_bind (m := updatePart a q _) (f := k) (wpOwn_of_wpAny (wpAny_updatePart (D.D.at j a _ hj) (x _ ⟨D2, by rw [Heap.size_update]; exact D.z⟩)))
theorem bind_c {t t' : Sem β} {f : β → Sem α} (h : t = t') : Sem.bind t f = Sem.bind t' f := by rw [h]
theorem try_c {t t' : Sem α} {k : Value → Sem α} (h : t = t') : Sem.tryCatch t k = Sem.tryCatch t' k := by rw [h]
theorem onr_c {t t' : Sem α} {k : Value → Sem Unit} (h : t = t') : Sem.onRaise t k = Sem.onRaise t' k := by rw [h]
theorem keep_c {vs : List Value} {t t' : Sem α} (h : t = t') : Sem.keep vs t = Sem.keep vs t' := by rw [h]
theorem loop_c {γ : Type} {as as' l : List γ} {f : (a : γ) → a ∈ as → β → Sem (ForInStep β)} {b : β} {p : ∃ bs, bs ++ as' = as} (h : as' = l) : List.forIn'.loop as f as' b p = List.forIn'.loop as f l b (h ▸ p) := by subst h; rfl
section
variable {b : Bool} {t u : Sem α} {f g : Unit → Sem α}
theorem cond_f (h : b = false) : cond b t u = u := by subst h; rfl
theorem cond_t (h : b = true) : cond b t u = t := by subst h; rfl
theorem condFn_f (h : b = false) : condFn (Sem α) b t u = u := by subst h; rfl
theorem condFn_t (h : b = true) : condFn (Sem α) b t u = t := by subst h; rfl
theorem cnndFn_f (h : b = false) : cnndFn (Sem α) b t u = t := by subst h; rfl
theorem cnndFn_t (h : b = true) : cnndFn (Sem α) b t u = u := by subst h; rfl
theorem brec_f (h : b = false) : @Bool.rec (fun _ => Sem α) t u b = t := by subst h; rfl
theorem brec_t (h : b = true) : @Bool.rec (fun _ => Sem α) t u b = u := by subst h; rfl
theorem cm_f (h : b = false) : cond.match_1 (fun _ => Sem α) b f g = g () := by subst h; rfl
theorem cm_t (h : b = true) : cond.match_1 (fun _ => Sem α) b f g = f () := by subst h; rfl
theorem ite_t {p : Prop} {dp : Decidable p} (h : p) : @ite _ p dp t u = t := if_pos h
theorem ite_f {p : Prop} {dp : Decidable p} (h : ¬ p) : @ite _ p dp t u = u := if_neg h
theorem ca1n {F : Option Value} {f : Value → Sem α} {g : Option Value → Sem α} (h : F = none) : codeAt.match_1 (fun _ => Sem α) F f g = g none := by subst h; rfl
theorem ca1s {F : Option Value} {v : Value} {f : Value → Sem α} {g : Option Value → Sem α} (h : F = some v) : codeAt.match_1 (fun _ => Sem α) F f g = f v := by subst h; rfl
theorem ca4n {F : Option Value} {f : Value → Sem α} {g : Unit → Sem α} (h : F = none) : codeAt.match_4 (fun _ => Sem α) F f g = g () := by subst h; rfl
theorem ca4s {F : Option Value} {v : Value} {f : Value → Sem α} {g : Unit → Sem α} (h : F = some v) : codeAt.match_4 (fun _ => Sem α) F f g = f v := by subst h; rfl
end
end
end Mine
end
section
open PySem PySem.W PyProof.Rows PySem.Calls PySem.W.X
set_option maxRecDepth 100000
namespace Mine
theorem nsm_some {α : Type} {F : Option DictEntry × Bool} {e : DictEntry} {b : Bool} {f1 : DictEntry → Bool → Sem α} {f2 f3 : Unit → Sem α} (h : F = (some e, b)) : PySem.nsLook.match_1 (fun _ => Sem α) F f1 f2 f3 = f1 e b := by subst h; rfl
noncomputable def FindsIn (l : List DictEntry) (x : Str) (v : Value) : Prop := ∃ hh kk bb, PySem.W.XFast.xw3451499830137702736 x.cps.size x.cps.toList l false = (some ⟨hh, kk, v⟩, bb)
theorem ns_finds {h : Heap} {a : Addr} {m : Str → Option Value} (N : h.Ns a m) : ∃ c d l n s, h.get? a = some ⟨c, d, .dict ⟨l⟩ n, s⟩ ∧ ∀ x v, m x = some v → FindsIn l x v := by
  obtain ⟨o, es, ep, ho, hd, _, hf⟩ := N
  obtain ⟨c, d, dt, s⟩ := o
  cases hd
  obtain ⟨l⟩ := es
  refine ⟨c, d, l, ep, s, ho, fun x v e => ?_⟩
  rw [← hf] at e
  have e1 : (nsNameIn x.cps.size x.cps.toList l false).1 = (⟨l⟩ : Array DictEntry).find? (·.key.isStr x) := nsNameIn_fst x ⟨l⟩
  unfold FindsIn
  rw [← PySem.W.XFast.xe3451499830137702736]
  generalize nsNameIn x.cps.size x.cps.toList l false = q at e1 ⊢
  obtain ⟨y, b⟩ := q
  have e2 : y = (⟨l⟩ : Array DictEntry).find? (·.key.isStr x) := e1
  unfold nsFind findBy at e
  rw [← e2] at e
  cases y with
  | none => cases e
  | some z =>
    obtain ⟨hh, kk, vv⟩ := z
    cases e
    exact ⟨hh, kk, b, rfl⟩
end Mine
end
section
open PySem PySem.W PyProof.Rows PySem.Calls
set_option maxRecDepth 100000
set_option maxHeartbeats 4000000
namespace Mine
noncomputable def xAt (P : Params) (a : Addr) : Obj := ((hd2.heap_39 P).lookup a).getD default
noncomputable def theLam (P : Params) : Arguments × PySem.Expr × Scope := match (xAt P 119).data with
  | .func fd => (match fd.body with
    | .stmts b => (match (b[6]? : Option Stmt) with
      | some (PySem.Stmt.Assign _ (.Call _ _ [k] _) _) => (match k.value with
        | .Call _ [.Lambda p b s _] _ _ => (p, b, s)
        | _ => default)
      | _ => default)
    | _ => default)
  | _ => default
noncomputable def LamOk (w : World) (h : Heap) (la : Addr) : Prop := ∃ nm q pm c' ctv od v0 t rest osl, h.get? la = some { cls := .type "function", data := .func { name := nm, qualname := q, params := (theLam w.params).1, body := .expr (theLam w.params).2.1, scope := (theLam w.params).2.2, globals := mainGlobals, closure := [], defaults := .none, kwdefaults := .none, doc := .none, pyModule := pm, annotations := none, code := .ref c', closureTuple := ctv, builtins := builtinsNs } } ∧
  h.get? c' = some ⟨.type "code", od, .fields ⟨v0 :: .str q t :: rest⟩, osl⟩
noncomputable def CtkPost (w : World) (la : Addr) (h : Heap) (C : Addr) (h' : Heap) : Prop :=
  Stays [58] h h' ∧ (∃ ps, h'.get? 58 = some (tabObj ps)) ∧ ∀ s' : Shared, Stays [] h' s'.heap →
    (∀ z tz, wpAny (model PySem.Challenge.pw_ik0002_02 w) (lvl 3) (call (.ref C) [.int z tz]) (fun r s'' => ∃ a h1 tk1, r = .ref a ∧ s'' = { s' with heap := h1, toks := tk1 } ∧ Stays [] s'.heap h1 ∧ s'.heap.get? a = none ∧ KeyAt h1 C (.int z tz) a) (fun _ _ => False) s') ∧
    (LamOk w s'.heap la → ∀ i j ti tj a b, KeyAt s'.heap C (.int i ti) a → KeyAt s'.heap C (.int j tj) b →
      wpAny (model PySem.Challenge.pw_ik0002_02 w) (lvl 3) (keyLt' oneType' (.ref a) (.ref b)) (fun r s'' => r = decide (j < i) ∧ ∃ h1 tk1, s'' = { s' with heap := h1, toks := tk1 } ∧ Stays [] s'.heap h1) (fun _ _ => False) s')
open PySem.W.X in
theorem memAt {h₀ h : Heap} {chg news : List (Addr × Obj)} (D : Mem h₀ h chg news) (i : Nat) {s' : Heap} (x : Stays [] h s') {a : Addr} {o : Obj} (e : news[i]? = some (a, o)) : s'.get? a = some o := x _ _ (D.at i _ _ e) (by simp)
open PySem.W.X in
theorem memStays {h₀ h : Heap} {news : List (Addr × Obj)} {a : Addr} {o : Obj} (D : Mem h₀ h [(a, o)] news) : Stays [a] h₀ h := fun b ob e hb => D.keep b ob e (by
  have n : a ≠ b := fun q => hb (by rw [q]; exact .head _)
  have n2 : Nat.beq a b = false := by
    cases q : Nat.beq a b with
    | false => rfl
    | true => exact absurd (Nat.eq_of_beq_eq_true q) n
  simp [away, n2])
open PySem.W.X in
theorem memStays0 {h₀ h : Heap} {news : List (Addr × Obj)} (D : Mem h₀ h [] news) : Stays [] h₀ h := fun b ob e _ => D.keep b ob e (by simp [away])
theorem no58 (P : Params) : (hd2.heap_39 P).lookup 58 = none := by kernel_rfl
theorem kx_stay {P : Params} {h h' : Heap} (X : (hd2.heap_39 P).In h) (st : Stays [58] h h') : (hd2.heap_39 P).In h' := fun a o e =>
  st _ _ (X _ _ e) fun hm => by
    rw [List.mem_singleton.mp hm, no58] at e
    cases e
theorem Stays.all {h h' : Heap} (x : Stays [] h h') : ∀ b o, h.get? b = some o → h'.get? b = some o := fun b o e => x b o e (by simp)
structure Zero (h : Heap) (c0 : Value) (d0 : Option Addr) (l0 : List DictEntry) (n0 : Nat) (s0 s4 : Array (Option Value)) : Prop where
  e0 : h.get? 0 = some ⟨c0, d0, .dict ⟨l0⟩ n0, s0⟩
  e4 : h.get? 4 = some ⟨.type "module", some 0, .plain, s4⟩
  fb : FindsIn l0 ⟨⟨[95, 95, 98, 117, 105, 108, 100, 95, 99, 108, 97, 115, 115, 95, 95]⟩⟩ (.builtin "__build_class__")
  fo : FindsIn l0 ⟨⟨[111, 98, 106, 101, 99, 116]⟩⟩ (.type "object")
theorem Zero.keeps {h h' : Heap} {c0 : Value} {d0 : Option Addr} {l0 : List DictEntry} {n0 : Nat} {s0 s4 : Array (Option Value)} (Z : Zero h c0 d0 l0 n0 s0 s4) (k : ∀ b o, h.get? b = some o → h'.get? b = some o) : Zero h' c0 d0 l0 n0 s0 s4 :=
  ⟨k _ _ Z.e0, k _ _ Z.e4, Z.fb, Z.fo⟩
theorem boot_ob : bootBuiltins ⟨⟨[111, 98, 106, 101, 99, 116]⟩⟩ = some (.type "object") := by kernel_rfl
theorem boot_bc : bootBuiltins ⟨⟨[95, 95, 98, 117, 105, 108, 100, 95, 99, 108, 97, 115, 115, 95, 95]⟩⟩ = some (.builtin "__build_class__") := by kernel_rfl
noncomputable def globB (o : Option Obj) : Option Value := match o with
  | some ⟨_, _, .dict es _, _⟩ => nsFind es "__builtins__"
  | _ => none
theorem glob_b0 (P : Params) : globB ((hd2.heap_39 P).lookup 3) = some (.ref 4) := by kernel_rfl
theorem glob_b (P : Params) : ∃ c d es n s, (hd2.heap_39 P).lookup 3 = some ⟨c, d, .dict es n, s⟩ ∧ nsFind es "__builtins__" = some (.ref 4) := by
  have h := glob_b0 P
  revert h
  generalize (hd2.heap_39 P).lookup 3 = q
  intro h
  unfold globB at h
  split at h
  · exact ⟨_, _, _, _, _, rfl, h⟩
  · cases h
theorem zero_of {w : World} {g : Heap} {p : Program} {loose : List Str} {mean : ExcName → Option Value} {mg mb : Str → Option Value} (X : (hd2.heap_39 w.params).In g) (T : Top p loose mean mg mb g) : ∃ c0 d0 l0 n0 s0 s4, Zero g c0 d0 l0 n0 s0 s4 := by
  obtain ⟨c0, d0, l0, n0, s0, e0, hf⟩ := ns_finds T.b
  obtain ⟨bm, ob, b1, _, b3, b4, b5, b6⟩ := T.bmain
  obtain ⟨c, d, es, n, s, hl, hb⟩ := glob_b w.params
  obtain ⟨o, es', ep, ho, hd, _, hg⟩ := T.g
  have e3 := X _ _ hl
  rw [show mainGlobals = 3 from rfl, e3] at ho
  cases ho
  cases hd
  rw [← hg, hb] at b1
  cases b1
  obtain ⟨q1, q2, q3, s4⟩ := ob
  cases b4
  cases b5
  cases b6
  refine ⟨c0, d0, l0, n0, s0, s4, e0, b3, hf _ _ ?_, hf _ _ ?_⟩
  · rw [T.builtins _ (by decide +kernel)]
    exact boot_bc
  · rw [T.builtins _ (by decide +kernel)]
    exact boot_ob
end Mine
end
section
open PySem PySem.W PyProof.Rows PySem.Calls PySem.W.X
set_option maxRecDepth 100000
namespace Mine
theorem ws_startO {α : Type} {A : Around} {c' : Code} {prog : Program} {w : World} {Q : α → Shared → Prop} {E : Value → Shared → Prop} {h₀ : Heap} {g : Array GenState} {d : Drawn} {os : OsState} {n t0 : Nat} {gd : Bool} {l : List Value} {k : Result → Sem α} {olds : List (Addr × Obj)} (_ : ∀ q ∈ olds, h₀.get? q.1 = some q.2 ∧ (hasCls q.2 || away [] q.1) = true) (en : h₀.objs.size = n)
    (x : WS ⟨prog, w, h₀, g, d, os, olds⟩ n t0 [] (A.mark none) c' (.base (postA prog w A Q E k)) [] 0 0 (code2 c')) : wpAny (model prog w) A (.call c' none gd l k) Q E ⟨h₀, g, d, t0, os⟩ := ws_start olds en x
theorem orec_n {α : Type} {F : Option Value} {u : Sem α} {v : Value → Sem α} (h : F = none) : @Option.rec Value (fun _ => Sem α) u v F = u := by subst h; rfl
theorem orec_s {α : Type} {F : Option Value} {x : Value} {u : Sem α} {v : Value → Sem α} (h : F = some x) : @Option.rec Value (fun _ => Sem α) u v F = v x := by subst h; rfl
theorem obrec_s {α : Type} {F : Option Bool} {x : Bool} {u : Sem α} {v : Bool → Sem α} (h : F = some x) : @Option.rec Bool (fun _ => Sem α) u v F = v x := by subst h; rfl
theorem prec_s {α : Type} {F : Option DictEntry × Bool} {e : Option DictEntry} {b : Bool} {f : Option DictEntry → Bool → Sem α} (h : F = (e, b)) : @Prod.rec (Option DictEntry) Bool (fun _ => Sem α) f F = f e b := by subst h; rfl
theorem drec_s {α : Type} {F : Option DictEntry} {x : DictEntry} {u : Sem α} {v : DictEntry → Sem α} (h : F = some x) : @Option.rec DictEntry (fun _ => Sem α) u v F = v x := by subst h; rfl
noncomputable abbrev OldAt (h : Heap) (q : Addr × Obj) : Prop := h.get? q.1 = some q.2 ∧ (hasCls q.2 || away [] q.1) = true
theorem oldAt {h : Heap} {a : Addr} {o : Obj} (e : h.get? a = some o) : OldAt h (a, o) := ⟨e, Bool.or_true _⟩
end Mine
end
section
open PySem PySem.W PyProof.Rows PySem.Calls
set_option maxRecDepth 100000
set_option maxHeartbeats 4000000
namespace Mine
theorem lt_found {M : Model} {h : Heap} {C N f : Addr} {oC oN : Obj} {cd : ClassData} {rest : List Value} {name : Str} (hC : h.get? C = some oC) (dC : oC.data = .cls cd) (hm : cd.mro = .ref C :: rest) (hns : cd.ns = N) (hN : h.get? N = some oN)
   (look : lookIn name oN = some (some (.ref f))) : Looks M h (typeLookup (.ref C) name) (some (.ref f)) := by
  have hne : C ≠ N := by
    rintro rfl
    rw [hC] at hN
    cases hN
    unfold lookIn at look
    rw [dC] at look
    cases look
  refine looks_findIn (K := [(C, oC), (N, oN)]) ?_ ?_
  · intro a o e
    rw [List.lookup_cons] at e
    by_cases q : a = C
    · subst q; rw [beq_self_eq_true] at e; cases e; exact hC
    · rw [beq_eq_false_iff_ne.mpr q] at e
      dsimp only at e
      rw [List.lookup_cons] at e
      by_cases q2 : a = N
      · subst q2; rw [beq_self_eq_true] at e; cases e; exact hN
      · rw [beq_eq_false_iff_ne.mpr q2] at e; cases e
  · obtain ⟨c1, c2, c3, c4⟩ := oC
    cases dC
    obtain ⟨n1, n2, n3, n4⟩ := oN
    have l1 : List.lookup C ([(C, ⟨c1, c2, .cls cd, c4⟩), (N, ⟨n1, n2, n3, n4⟩)] : Frag) = some ⟨c1, c2, .cls cd, c4⟩ := by rw [List.lookup_cons, beq_self_eq_true]
    have l2 : List.lookup N ([(C, ⟨c1, c2, .cls cd, c4⟩), (N, ⟨n1, n2, n3, n4⟩)] : Frag) = some ⟨n1, n2, n3, n4⟩ := by
      rw [List.lookup_cons, beq_eq_false_iff_ne.mpr (Ne.symm hne)]
      dsimp only
      rw [List.lookup_cons, beq_self_eq_true]
    have l3 : nsIn [(C, ⟨c1, c2, .cls cd, c4⟩), (N, ⟨n1, n2, n3, n4⟩)] cd.ns name = some (some (.ref f)) := by
      unfold nsIn
      rw [hns, l2]
      unfold lookIn at look
      dsimp only at look
      cases n3 <;> first | exact look | cases look
    have l4 : ownIn [(C, ⟨c1, c2, .cls cd, c4⟩), (N, ⟨n1, n2, n3, n4⟩)] name (.ref C) = some (some (.ref f)) := by
      unfold ownIn
      dsimp only
      rw [l1]
      exact l3
    unfold findIn
    dsimp only
    rw [l1]
    dsimp only
    rw [hm]
    unfold alongIn
    rw [l4]
theorem fn_bind {M : Model} {h : Heap} {f : Addr} {oF : Obj} (hF : h.get? f = some oF) (hc : oF.cls = .type "function") (self : Value) : Looks M h (bindSpecial (.ref f) self) (.ref f, [self]) := by
  refine bind_fn (K := [(f, oF)]) (fun a o e => ?_) self ?_
  · rw [List.lookup_cons] at e
    by_cases q : a = f
    · subst q; rw [beq_self_eq_true] at e; cases e; exact hF
    · rw [beq_eq_false_iff_ne.mpr q] at e; cases e
  · show Option.map (fun x => x.cls) (List.lookup f [(f, oF)]) = _
    rw [List.lookup_cons, beq_self_eq_true]
    simp [hc]
theorem ifBound_L {M : Model} {A : Around} {E : Value → Shared → Prop} {s : Shared} {x C f : Addr} {name : Str} {args : List Value} {Q : Option Value → Shared → Prop} (hT : Looks M s.heap (typeOf (.ref x)) (.ref C)) (hs : Looks M s.heap (typeLookup (.ref C) name) (some (.ref f)))
    (hb : Looks M s.heap (bindSpecial (.ref f) (.ref x)) (.ref f, [.ref x])) (h : wpAny M A (call (.ref f) (.ref x :: args)) (fun v => Q (some v)) E s) : wpAny M A (callSpecialIfBound? (.ref x) name args) Q E s := by
  simp only [callSpecialIfBound?, bindSpecialIfBound?]
  refine wpAny_holding (wpAny_bind (wpAny_bind (wpAny_bind (hT.here (hs.here ?_)))))
  refine wpAny_bind (wpAny_askSetting (wpAny_ite ?_))
  have fin : wpAny M A (call (.ref f) ([.ref x] ++ args) >>= fun v => pure (some v)) Q E s := wpAny_bind (wpAny_mono h (fun v s' h' => wpAny_pure h') fun _ _ h' => h')
  split
  · exact wpAny_bind (hb.here (wpAny_pure (by exact fin)))
  · exact wpAny_tryCatch (wpAny_bind (hb.here (wpAny_pure (by exact fin))))
theorem lt_B3 {prog : Program} {w : World} {A : Around} {E : Value → Shared → Prop} {s : Shared} {a C f : Addr} {oF : Obj} {dA : Option Addr} {dt : Data} {sl : Array (Option Value)} {b : Value} {Q : Bool → Shared → Prop} (hu : A.units < cLine) (ha : s.heap.get? a = some ⟨.ref C, dA, dt, sl⟩)
    (hs : Looks (model prog w) s.heap (typeLookup (.ref C) "__lt__") (some (.ref f))) (hF : s.heap.get? f = some oF) (hc : oF.cls = .type "function")
    (h : wpAny (model prog w) A (call (.ref f) [.ref a, b]) (fun v s' => ∃ r, v = .bool r ∧ Q r s') E s) : wpAny (model prog w) A (keyLt' oneType' (.ref a) b) Q E s := by
  rw [keyLt'_oneType, oneLt'_eq]
  simp only [if_true]
  refine wpAny_bind (wpAny_cRoomFor hu ?_)
  refine wpAny_bind (ifBound_L (ref_type ha) hs (fn_bind hF hc _) (wpAny_mono h (fun v s' hv => ?_) fun _ _ e => e))
  obtain ⟨r, rfl, hq⟩ := hv
  exact wpAny_truthy_bool hq

end Mine
end
section
open PySem PySem.W PyProof.Rows PySem.Calls
set_option maxRecDepth 100000
namespace Mine
noncomputable def dl (o : Obj) : List DictEntry := match o.data with
  | .dict ⟨l⟩ _ => l
  | _ => []
noncomputable def dn (o : Obj) : Nat := match o.data with
  | .dict _ n => n
  | _ => 0
noncomputable def dplain (o : Obj) : Bool := match o with
  | ⟨.type s, none, .dict _ _, ⟨[]⟩⟩ => s == "dict"
  | _ => false
theorem obj_dict {o : Obj} (h : dplain o = true) : o = ⟨.type "dict", none, .dict ⟨dl o⟩ (dn o), #[]⟩ := by
  unfold dplain at h
  split at h
  · have := eq_of_beq h
    subst this
    rfl
  · cases h
theorem nsm_none {α : Type} {F : Option DictEntry × Bool} {f1 : DictEntry → Bool → Sem α} {f2 f3 : Unit → Sem α} (h : F = (none, false)) : PySem.nsLook.match_1 (fun _ => Sem α) F f1 f2 f3 = f3 () := by subst h; rfl
noncomputable def findV (l : List DictEntry) (x : Str) : Option Value := (PySem.W.XFast.xw3451499830137702736 x.cps.size x.cps.toList l false).1.map (·.val)
theorem findV_some {l : List DictEntry} {x : Str} {v : Value} (h : findV l x = some v) : FindsIn l x v := by
  unfold findV at h
  unfold FindsIn
  generalize PySem.W.XFast.xw3451499830137702736 x.cps.size x.cps.toList l false = q at h ⊢
  obtain ⟨y, b⟩ := q
  cases y with
  | none => cases h
  | some z => obtain ⟨hh, kk, vv⟩ := z; cases h; exact ⟨hh, kk, b, rfl⟩
noncomputable def clsT (o : Obj) : Option (Value × List Value × Addr × Bool × List Value × Bool × Option Bool) := match o with
  | ⟨c, _, .cls cd, _⟩ => some (c, cd.mro, cd.ns, cd.hasDict, cd.subclasses, cd.abstract, cd.collection)
  | _ => none
theorem cls_obj {o : Obj} {c : Value} {mro : List Value} {ns : Addr} {a : Bool} {b : List Value} {d : Bool} {e : Option Bool} (h : clsT o = some (c, mro, ns, a, b, d, e)) : ∃ od nm bs qn sn hd sl, o = ⟨c, od, .cls ⟨nm, bs, mro, ns, qn, a, sn, b, d, e, hd⟩, sl⟩ := by
  unfold clsT at h
  split at h
  · cases h
    exact ⟨_, _, _, _, _, _, _, rfl⟩
  · cases h
theorem cls_at {h : Heap} {k : Addr} {o : Obj} {c : Value} {mro : List Value} {ns : Addr} {a : Bool} {b : List Value} {d : Bool} {e : Option Bool} (q : h.get? k = some o) (hT : clsT o = some (c, mro, ns, a, b, d, e)) : ∃ od nm bs qn sn hd sl, h.get? k = some ⟨c, od, .cls ⟨nm, bs, mro, ns, qn, a, sn, b, d, e, hd⟩, sl⟩ := by
  obtain ⟨od, nm, bs, qn, sn, hd, sl, rfl⟩ := cls_obj hT
  exact ⟨od, nm, bs, qn, sn, hd, sl, q⟩
noncomputable def tokOf : Value → Tok
  | .str _ t => t
  | _ => 0
noncomputable def rebuildFrom (l : List DictEntry) : Nat → List (Str × Option Value) → List DictEntry
  | _, [] => []
  | i, (k, v) :: r => ⟨(l.getD i default).hash, .str k (tokOf (l.getD i default).key), match v with | some v => v | none => (l.getD i default).val⟩ :: rebuildFrom l (i + 1) r
theorem dict_at {h : Heap} {k : Addr} {o : Obj} (ks : List (Str × Option Value)) (q : h.get? k = some o) (hp : dplain o = true) (hl : dl o = rebuildFrom (dl o) 0 ks) : ∃ l n, h.get? k = some ⟨.type "dict", none, .dict ⟨rebuildFrom l 0 ks⟩ n, #[]⟩ :=
  ⟨dl o, dn o, by rw [q, ← hl]; exact congrArg some (obj_dict hp)⟩
noncomputable def kNames (n : Nat) : List (Str × Option Value) := [(⟨⟨[95, 95, 109, 111, 100, 117, 108, 101, 95, 95]⟩⟩, none), (⟨⟨[95, 95, 102, 105, 114, 115, 116, 108, 105, 110, 101, 110, 111, 95, 95]⟩⟩, none), (⟨⟨[95, 95, 115, 108, 111, 116, 115, 95, 95]⟩⟩, some (.ref (ad n 9))), (⟨⟨[95, 95, 105, 110, 105, 116, 95, 95]⟩⟩, some (.ref (ad n 16))), (⟨⟨[95, 95, 108, 116, 95, 95]⟩⟩, some (.ref (ad n 24))), (⟨⟨[95, 95, 103, 116, 95, 95]⟩⟩, some (.ref (ad n 32))), (⟨⟨[95, 95, 101, 113, 95, 95]⟩⟩, some (.ref (ad n 40))), (⟨⟨[95, 95, 108, 101, 95, 95]⟩⟩, some (.ref (ad n 48))), (⟨⟨[95, 95, 103, 101, 95, 95]⟩⟩, some (.ref (ad n 56))), (⟨⟨[95, 95, 104, 97, 115, 104, 95, 95]⟩⟩, some .none), (⟨⟨[95, 95, 115, 116, 97, 116, 105, 99, 95, 97, 116, 116, 114, 105, 98, 117, 116, 101, 115, 95, 95]⟩⟩, none), (⟨⟨[111, 98, 106]⟩⟩, some (.ref (ad n 61))), (⟨⟨[95, 95, 100, 111, 99, 95, 95]⟩⟩, some .none)]
end Mine
end
section
open PySem PySem.W PyProof.Rows PySem.Calls PySem.W.X
set_option maxRecDepth 100000
set_option maxHeartbeats 0
namespace Mine
theorem idObj : PySem.W.XFast.xw10133417225327028743 (Str.ofString "obj") = some true := by kernel_rfl
theorem rows18 : True := by
  k_with_none
  k_with "xs_dec" => (first
     | exact lr
     | exact ln _ _ rfl
     | exact lo _ _ rfl
     | exact lw _ _ rfl
     | rfl
     | kernel_rfl!
     | exact addr_ne (adn_big hn rfl)
     | exact addr_ne (adn_ne rfl)
     | exact addr_ne (adn_big hn2 rfl)
     | exact addr_ne (adn_old hnn rfl)
     | exact addr_ne (Ne.symm (adn_old hnn rfl))
     | exact addr_ne (Ne.symm (adn_big hn2 rfl))
     | exact addr_ne (Ne.symm (adn_big hn rfl))
     | (refine' sameRef_ne ?hv ?h; (case hv => rfl); (case h => first | exact adn_ne rfl | exact adn_old hnn rfl | exact Ne.symm (adn_old hnn rfl)))
     | (refine' v_ne ?hv ?hu ?h; (case hv => rfl); (case hu => rfl); (case h => first | exact adn_ne rfl | exact adn_big hn rfl | exact Ne.symm (adn_big hn rfl) | exact adn_big hn2 rfl | exact Ne.symm (adn_big hn2 rfl) | exact adn_old hnn rfl | exact Ne.symm (adn_old hnn rfl)))
     | exact v_eq rfl
     | (refine or_ff ?h1 ?h2; (case h1 => walk_at "xs_dec"); (case h2 => walk_at "xs_dec"))
     | (refine not_f ?h1; (case h1 => walk_at "xs_dec"))
     | (refine not_t ?h1; (case h1 => walk_at "xs_dec"))
     | (refine and_tt ?h1 ?h2; (case h1 => walk_at "xs_dec"); (case h2 => walk_at "xs_dec"))
     | (refine or_t1 ?h1; (case h1 => walk_at "xs_dec"))
     | (refine and_f1 ?h1; (case h1 => walk_at "xs_dec"))
     | (refine or_t2 ?h1; (case h1 => walk_at "xs_dec"))
     | (refine and_f2 ?h1; (case h1 => walk_at "xs_dec"))
     | (simp only [ad_same]; done))
  trivial
noncomputable def olds (P : Params) (o0 o4 : Obj) : List (Addr × Obj) := [(2, xAt P 2), (3, xAt P 3), (4, o4), (62, xAt P 62), (63, xAt P 63), (0, o0)]
theorem olds_in {P : Params} {h : Heap} {chg : List (Addr × Obj)} {o0 o4 : Obj} (X : (hd2.heap_39 P).In h) (e0 : h.get? 0 = some o0) (e4 : h.get? 4 = some o4) (w : away chg 0 = true ∧ away chg 2 = true ∧ away chg 3 = true ∧ away chg 4 = true ∧ away chg 62 = true ∧ away chg 63 = true) :
    ∀ q ∈ olds P o0 o4, h.get? q.1 = some q.2 ∧ (hasCls q.2 || away chg q.1) = true :=
  all_cons ⟨X _ _ rfl, by rw [w.2.1, Bool.or_true]⟩ (all_cons ⟨X _ _ rfl, by rw [w.2.2.1, Bool.or_true]⟩ (all_cons ⟨e4, by rw [w.2.2.2.1, Bool.or_true]⟩ (all_cons ⟨X _ _ rfl, by rw [w.2.2.2.2.1, Bool.or_true]⟩ (all_cons ⟨X _ _ rfl, by rw [w.2.2.2.2.2, Bool.or_true]⟩ (all_cons ⟨e0, by rw [w.1, Bool.or_true]⟩ all_nil)))))
theorem ctk8 {w : World} {h₀ : Heap} {g : Array GenState} {d : Drawn} {t : Nat} {os : OsState} {la : Addr} {Q E : Value → Shared → Prop} {c0 : Value} {d0 : Option Addr} {l0 : List DictEntry} {n0 : Nat} {s0 s4 : Array (Option Value)} (X : (hd2.heap_39 w.params).In h₀) (hn : 119 < h₀.objs.size)
   (k58 : h₀.get? 58 = some (tableObj #[])) (Z : Zero h₀ c0 d0 l0 n0 s0 s4)
   (hQ : ∀ C h' tk', CtkPost w la h₀ C h' → Q (.ref C) ⟨h', g, d, tk', os⟩) :
   wpAny (model PySem.Challenge.pw_ik0002_02 w) (lvl 5) (call (.ref 63) [.ref la]) Q E ⟨h₀, g, d, t, os⟩ := by
  obtain ⟨b1, b2, b3, hbc⟩ := Z.fb
  obtain ⟨o1, o2, o3, hob⟩ := Z.fo
  obtain ⟨n, en⟩ : ∃ n, h₀.objs.size = n := ⟨_, rfl⟩
  rw [en] at hn
  have k62 := X 62 _ rfl
  (conv at k62 => rhs; arg 1; whnf)
  have ht : h₀.TableAt 62 58 #[] := ⟨⟨_, _, k62, rfl, rfl, rfl⟩, k58⟩
  have hold0 := olds_in (chg := []) X Z.e0 Z.e4 ⟨rfl, rfl, rfl, rfl, rfl, rfl⟩
  have hold1 := fun o : Obj => olds_in (chg := [(58, o)]) X Z.e0 Z.e4 ⟨rfl, rfl, rfl, rfl, rfl, rfl⟩
  refine ws_start (olds w.params ⟨c0, d0, .dict ⟨l0⟩ n0, s0⟩ ⟨.type "module", some 0, .plain, s4⟩) en ?_
  refine go2_run (m' := 2) (i' := 0) 6 [(true, 4), (true, 3), (false, 0), (false, 0)] hold0 rfl rfl ?_
  (try (conv => (arg 8; dsimp only [List.set])))
  (try (conv => arg 11; whnf)); refine ws_stack ?_; intro p9 below L; (try clear lr ln lo lw); have lr := L.room (by exact Nat.le_of_ble_eq_true rfl); have ln : ∀ own lim, lim = recursionLimit → oNear.1 _ own lim = false := (fun own lim e => e ▸ L.near' (by exact Nat.le_of_ble_eq_true rfl) own); have lo : ∀ own lim, lim = recursionLimit → oOver.1 _ own lim = false := (fun own lim e => e ▸ L.over (by exact Nat.le_of_ble_eq_true rfl) own); have lw : ∀ own lim, lim = recursionLimit → oWarm.1 _ own lim = false := (fun own lim e => e ▸ L.warm (by exact Nat.le_of_ble_eq_true rfl) own)
  refine go2_run (m' := 2) (i' := 0) 1 [(true, 0)] hold0 rfl rfl ?_
  (conv => (arg 11; whnf; arg 1; whnf))
  (refine ws_tree (bind_c (cm_f ?hb)) ?_; (case hb => walk_at "xs_dec"))
  (conv => (arg 11; whnf; arg 1; whnf))
  (refine ws_tree (bind_c (cm_f ?hb)) ?_; (case hb => walk_at "xs_dec"))
  (conv => (arg 11; whnf; arg 1; whnf))
  (refine ws_tree (bind_c (cm_f ?hb)) ?_; (case hb => walk_at "xs_dec"))
  refine go2_run (m' := 2) (i' := 0) 4 [(true, 5)] hold0 rfl (by kernel_rfl!) ?_
  (conv => (arg 11; whnf; arg 1; whnf; arg 1; whnf; arg 1; whnf; arg 1; whnf; arg 1; whnf))
  refine ws_tree (bind_c (onr_c (bind_c (bind_c (bind_c (nsm_some hbc)))))) ?_
  refine go2_run (m' := 2) (i' := 0) 3 [(true, 1), (true, 5)] hold0 rfl rfl ?_
  (conv => (arg 11; whnf; arg 1; whnf; arg 1; whnf; arg 1; whnf; arg 1; whnf; arg 1; whnf; arg 1; whnf; arg 1; whnf; arg 1; whnf))
  refine ws_tree (bind_c (onr_c (bind_c (bind_c (bind_c (bind_c (bind_c (bind_c (nsm_some hob))))))))) ?_
  refine go2_run (m' := 5) (i' := 2) 16 [(false, 0)] hold0 rfl (by kernel_rfl!) ?_
  (conv => (arg 11; whnf; arg 1; whnf; arg 1; whnf; arg 1; whnf; arg 1; whnf; arg 2; whnf; arg 1; whnf))
  (refine ws_tree (bind_c (onr_c (bind_c (bind_c (keep_c (bind_c (brec_f ?hb))))))) ?_; (case hb => walk_at "xs_dec"))
  refine go2_run (m' := 5) (i' := 2) 2 [(false, 0), (true, 3)] hold0 rfl rfl ?_
  (try (conv => arg 11; whnf)); refine ws_load k58 rfl ?_
  refine go2_run (m' := 8) (i' := 8) 9 [] hold0 rfl rfl ?_
  (try (conv => arg 11; whnf)); refine ws_load k58 rfl ?_
  (try (conv => arg 11; whnf)); refine ws_tab ht rfl rfl ?_
  (try (conv => arg 11; whnf)); refine ws_loadChg ?_
  (conv => (arg 11; whnf; arg 1; whnf; arg 1; whnf; arg 1; whnf; arg 1; whnf; arg 2; whnf; arg 2; whnf; arg 1; whnf))
  refine ws_tree (bind_c (onr_c (bind_c (bind_c (keep_c (keep_c (bind_c (ca4s (caX_eq rfl))))))))) ?_
  refine go2_run (m' := 9) (i' := 8) 4 [(true, 1), (true, 2), (true, 1)] (hold1 _) rfl rfl ?_
  (try (conv => arg 11; whnf)); refine ws_stack ?_; intro p9 below L; (try clear lr ln lo lw); have lr := L.room (by exact Nat.le_of_ble_eq_true rfl); have ln : ∀ own lim, lim = recursionLimit → oNear.1 _ own lim = false := (fun own lim e => e ▸ L.near' (by exact Nat.le_of_ble_eq_true rfl) own); have lo : ∀ own lim, lim = recursionLimit → oOver.1 _ own lim = false := (fun own lim e => e ▸ L.over (by exact Nat.le_of_ble_eq_true rfl) own); have lw : ∀ own lim, lim = recursionLimit → oWarm.1 _ own lim = false := (fun own lim e => e ▸ L.warm (by exact Nat.le_of_ble_eq_true rfl) own)
  refine go2_run (m' := 9) (i' := 8) 1 [(true, 0)] (hold1 _) rfl rfl ?_
  (conv => (arg 11; whnf; arg 1; whnf; arg 1; whnf; arg 1; whnf; arg 1; whnf; arg 2; whnf; arg 2; whnf; arg 2; whnf; arg 1; whnf))
  (refine ws_tree (bind_c (onr_c (bind_c (bind_c (keep_c (keep_c (keep_c (bind_c (cm_f ?hb))))))))) ?_; (case hb => walk_at "xs_dec"))
  (conv => (arg 11; whnf; arg 1; whnf; arg 1; whnf; arg 1; whnf; arg 1; whnf; arg 2; whnf; arg 2; whnf; arg 2; whnf; arg 1; whnf))
  (refine ws_tree (bind_c (onr_c (bind_c (bind_c (keep_c (keep_c (keep_c (bind_c (cm_f ?hb))))))))) ?_; (case hb => walk_at "xs_dec"))
  (conv => (arg 11; whnf; arg 1; whnf; arg 1; whnf; arg 1; whnf; arg 1; whnf; arg 2; whnf; arg 2; whnf; arg 2; whnf; arg 1; whnf))
  (refine ws_tree (bind_c (onr_c (bind_c (bind_c (keep_c (keep_c (keep_c (bind_c (cm_f ?hb))))))))) ?_; (case hb => walk_at "xs_dec"))
  refine go2_run (m' := 9) (i' := 13) 20 [(false, 4), (false, 4), (true, 1), (false, 4), (false, 4), (false, 4), (false, 4), (false, 4), (false, 4), (false, 4), (false, 4), (false, 4)] (hold1 _) rfl rfl ?_
  (try (conv => (arg 8; dsimp only [List.set])))
  refine go2_run (m' := 10) (i' := 17) 20 [(false, 4), (false, 4), (false, 4), (false, 5)] (hold1 _) rfl rfl ?_
  (try (conv => (arg 8; dsimp only [List.set])))
  refine go2_run (m' := 16) (i' := 24) 20 [(false, 5), (false, 5), (false, 2), (false, 3), (false, 9)] (hold1 _) rfl rfl ?_
  (try (conv => (arg 8; dsimp only [List.set])))
  refine ws_tabI 9 rfl caX_nil ?_
  refine go2_run (m' := 16) (i' := 24) 1 [(false, 9)] (hold1 _) rfl rfl ?_
  (conv => (arg 11; whnf; arg 1; whnf; arg 1; whnf; arg 1; whnf; arg 1; whnf; arg 1; whnf))
  refine ws_tree (bind_c (onr_c (bind_c (bind_c (bind_c (ca4s (caX_eq rfl))))))) ?_
  refine go2_run (m' := 18) (i' := 25) 16 [(true, 1), (true, 2), (true, 1), (false, 12), (false, 12), (false, 12), (false, 10), (false, 11)] (hold1 _) rfl rfl ?_
  (try (conv => (arg 8; dsimp only [List.set])))
  (conv => (arg 11; whnf; arg 1; whnf; arg 1; whnf; arg 1; whnf; arg 1; whnf; arg 1; whnf))
  refine ws_tree (bind_c (onr_c (bind_c (bind_c (bind_c (ca1n ((caX_ne rfl).trans caX_nil))))))) ?_
  refine go2_run (m' := 24) (i' := 33) 15 [(false, 17)] (hold1 _) rfl rfl ?_
  refine ws_tabI 17 rfl ((caX_ne rfl).trans caX_nil) ?_
  refine go2_run (m' := 24) (i' := 33) 1 [(false, 17)] (hold1 _) rfl rfl ?_
  (conv => (arg 11; whnf; arg 1; whnf; arg 1; whnf; arg 1; whnf; arg 1; whnf; arg 1; whnf))
  refine ws_tree (bind_c (onr_c (bind_c (bind_c (bind_c (ca4s ((caX_ne rfl).trans (caX_eq rfl)))))))) ?_
  refine go2_run (m' := 26) (i' := 34) 16 [(true, 1), (true, 2), (true, 1), (false, 20), (false, 20), (false, 20), (false, 18), (false, 19)] (hold1 _) rfl rfl ?_
  (try (conv => (arg 8; dsimp only [List.set])))
  (conv => (arg 11; whnf; arg 1; whnf; arg 1; whnf; arg 1; whnf; arg 1; whnf; arg 1; whnf))
  refine ws_tree (bind_c (onr_c (bind_c (bind_c (bind_c (ca1n ((caX_ne rfl).trans ((caX_ne rfl).trans caX_nil)))))))) ?_
  refine go2_run (m' := 32) (i' := 42) 15 [(false, 25)] (hold1 _) rfl rfl ?_
  refine ws_tabI 25 rfl ((caX_ne rfl).trans ((caX_ne rfl).trans caX_nil)) ?_
  refine go2_run (m' := 32) (i' := 42) 1 [(false, 25)] (hold1 _) rfl rfl ?_
  (conv => (arg 11; whnf; arg 1; whnf; arg 1; whnf; arg 1; whnf; arg 1; whnf; arg 1; whnf))
  refine ws_tree (bind_c (onr_c (bind_c (bind_c (bind_c (ca4s ((caX_ne rfl).trans ((caX_ne rfl).trans (caX_eq rfl))))))))) ?_
  refine go2_run (m' := 34) (i' := 43) 16 [(true, 1), (true, 2), (true, 1), (false, 28), (false, 28), (false, 28), (false, 26), (false, 27)] (hold1 _) rfl rfl ?_
  (try (conv => (arg 8; dsimp only [List.set])))
  (conv => (arg 11; whnf; arg 1; whnf; arg 1; whnf; arg 1; whnf; arg 1; whnf; arg 1; whnf))
  refine ws_tree (bind_c (onr_c (bind_c (bind_c (bind_c (ca1n ((caX_ne rfl).trans ((caX_ne rfl).trans ((caX_ne rfl).trans caX_nil))))))))) ?_
  refine go2_run (m' := 40) (i' := 51) 15 [(false, 33)] (hold1 _) rfl rfl ?_
  refine ws_tabI 33 rfl ((caX_ne rfl).trans ((caX_ne rfl).trans ((caX_ne rfl).trans caX_nil))) ?_
  refine go2_run (m' := 40) (i' := 51) 1 [(false, 33)] (hold1 _) rfl rfl ?_
  (conv => (arg 11; whnf; arg 1; whnf; arg 1; whnf; arg 1; whnf; arg 1; whnf; arg 1; whnf))
  refine ws_tree (bind_c (onr_c (bind_c (bind_c (bind_c (ca4s ((caX_ne rfl).trans ((caX_ne rfl).trans ((caX_ne rfl).trans (caX_eq rfl)))))))))) ?_
  refine go2_run (m' := 42) (i' := 52) 16 [(true, 1), (true, 2), (true, 1), (false, 36), (false, 36), (false, 36), (false, 34), (false, 35)] (hold1 _) rfl rfl ?_
  (try (conv => (arg 8; dsimp only [List.set])))
  (conv => (arg 11; whnf; arg 1; whnf; arg 1; whnf; arg 1; whnf; arg 1; whnf; arg 1; whnf))
  refine ws_tree (bind_c (onr_c (bind_c (bind_c (bind_c (ca1n ((caX_ne rfl).trans ((caX_ne rfl).trans ((caX_ne rfl).trans ((caX_ne rfl).trans caX_nil)))))))))) ?_
  refine go2_run (m' := 48) (i' := 60) 15 [(false, 41)] (hold1 _) rfl rfl ?_
  refine ws_tabI 41 rfl ((caX_ne rfl).trans ((caX_ne rfl).trans ((caX_ne rfl).trans ((caX_ne rfl).trans caX_nil)))) ?_
  refine go2_run (m' := 48) (i' := 60) 1 [(false, 41)] (hold1 _) rfl rfl ?_
  (conv => (arg 11; whnf; arg 1; whnf; arg 1; whnf; arg 1; whnf; arg 1; whnf; arg 1; whnf))
  refine ws_tree (bind_c (onr_c (bind_c (bind_c (bind_c (ca4s ((caX_ne rfl).trans ((caX_ne rfl).trans ((caX_ne rfl).trans ((caX_ne rfl).trans (caX_eq rfl))))))))))) ?_
  refine go2_run (m' := 50) (i' := 61) 16 [(true, 1), (true, 2), (true, 1), (false, 44), (false, 44), (false, 44), (false, 42), (false, 43)] (hold1 _) rfl rfl ?_
  (try (conv => (arg 8; dsimp only [List.set])))
  (conv => (arg 11; whnf; arg 1; whnf; arg 1; whnf; arg 1; whnf; arg 1; whnf; arg 1; whnf))
  refine ws_tree (bind_c (onr_c (bind_c (bind_c (bind_c (ca1n ((caX_ne rfl).trans ((caX_ne rfl).trans ((caX_ne rfl).trans ((caX_ne rfl).trans ((caX_ne rfl).trans caX_nil))))))))))) ?_
  refine go2_run (m' := 56) (i' := 69) 15 [(false, 49)] (hold1 _) rfl rfl ?_
  refine ws_tabI 49 rfl ((caX_ne rfl).trans ((caX_ne rfl).trans ((caX_ne rfl).trans ((caX_ne rfl).trans ((caX_ne rfl).trans caX_nil))))) ?_
  refine go2_run (m' := 56) (i' := 69) 1 [(false, 49)] (hold1 _) rfl rfl ?_
  (conv => (arg 11; whnf; arg 1; whnf; arg 1; whnf; arg 1; whnf; arg 1; whnf; arg 1; whnf))
  refine ws_tree (bind_c (onr_c (bind_c (bind_c (bind_c (ca4s ((caX_ne rfl).trans ((caX_ne rfl).trans ((caX_ne rfl).trans ((caX_ne rfl).trans ((caX_ne rfl).trans (caX_eq rfl)))))))))))) ?_
  refine go2_run (m' := 57) (i' := 71) 20 [(true, 1), (true, 2), (true, 1), (false, 52), (false, 52), (false, 52), (false, 52), (false, 52), (false, 52)] (hold1 _) rfl rfl ?_
  (try (conv => (arg 8; dsimp only [List.set])))
  refine go2_run (m' := 58) (i' := 73) 11 [(false, 53), (false, 53), (false, 53)] (hold1 _) rfl (by kernel_rfl!) ?_
  (try (conv => (arg 8; dsimp only [List.set])))
  (conv => (arg 11; whnf; arg 1; whnf; arg 1; whnf; arg 1; whnf))
  (refine ws_tree (bind_c (bind_c (bind_c (brec_f ?hb)))) ?_; (case hb => walk_at "xs_dec"))
  refine go2_run (m' := 58) (i' := 73) 1 [] (hold1 _) rfl rfl ?_
  (conv => (arg 11; whnf; arg 1; whnf; arg 1; whnf; arg 1; whnf; arg 1; whnf; arg 1; whnf; arg 1; whnf; arg 1; whnf))
  (refine ws_tree (bind_c (bind_c (bind_c (bind_c (bind_c (bind_c (bind_c (brec_f ?hb)))))))) ?_; (case hb => walk_at "xs_dec"))
  (conv => (arg 11; whnf; arg 1; whnf; arg 1; whnf; arg 1; whnf; arg 1; whnf))
  (refine ws_tree (bind_c (bind_c (bind_c (bind_c (brec_f ?hb))))) ?_; (case hb => walk_at "xs_dec"))
  refine go2_run (m' := 58) (i' := 73) 4 [(false, 55), (false, 53), (false, 55)] (hold1 _) rfl (by kernel_rfl!) ?_
  (conv => (arg 11; whnf; ))
  (refine ws_tree (brec_f ?hb) ?_; (case hb => walk_at "xs_dec"))
  refine go2_run (m' := 59) (i' := 73) 8 [(false, 53), (false, 53), (false, 48), (false, 49)] (hold1 _) rfl (by kernel_rfl!) ?_
  (conv => (arg 11; whnf; ))
  (refine ws_tree (brec_t ?hb) ?_; (case hb => walk_at "xs_dec"))
  refine go2_run (m' := 59) (i' := 73) 7 [(false, 49), (false, 0), (false, 0), (false, 0), (false, 0), (false, 0)] (hold1 _) rfl rfl ?_
  (try (conv => (arg 8; dsimp only [List.set])))
  (conv => (arg 11; whnf; arg 1; whnf; arg 1; whnf; arg 1; whnf; rw [idObj]))
  (conv => (arg 11; whnf; arg 1; whnf; arg 1; whnf; arg 1; whnf))
  (refine ws_tree (bind_c (bind_c (bind_c (brec_f ?hb)))) ?_; (case hb => walk_at "xs_dec"))
  refine go2_run (m' := 60) (i' := 73) 1 [] (hold1 _) rfl rfl ?_
  (conv => (arg 11; whnf; ))
  (refine ws_tree (brec_f ?hb) ?_; (case hb => walk_at "xs_dec"))
  (conv => (arg 11; whnf; arg 1; whnf))
  (refine ws_tree (bind_c (brec_f ?hb)) ?_; (case hb => walk_at "xs_dec"))
  (conv => (arg 11; whnf; ))
  (refine ws_tree (brec_f ?hb) ?_; (case hb => walk_at "xs_dec"))
  refine go2_run (m' := 61) (i' := 73) 4 [(false, 0), (false, 0), (false, 0)] (hold1 _) rfl rfl ?_
  refine ws_slotI 0 rfl rfl ?_
  refine ws_slotI 0 rfl rfl ?_
  refine ws_slotI 0 rfl rfl ?_
  refine go2_run (m' := 61) (i' := 73) 7 [(false, 1), (false, 1), (false, 1), (false, 1), (false, 1), (false, 1), (false, 1)] (hold1 _) rfl rfl ?_
  (try (conv => (arg 8; dsimp only [List.set])))
  (conv => (arg 11; whnf; arg 1; whnf; rw [fl1]))
  refine go2_run (m' := 61) (i' := 73) 3 [(false, 0), (false, 0), (false, 0)] (hold1 _) rfl rfl ?_
  (try (conv => (arg 8; dsimp only [List.set])))
  (conv => (arg 11; whnf; arg 1; whnf; arg 1; whnf; arg 1; whnf))
  (refine ws_tree (bind_c (bind_c (bind_c (brec_f ?hb)))) ?_; (case hb => walk_at "xs_dec"))
  refine ws_slotI 0 rfl rfl ?_
  refine go2_run (m' := 61) (i' := 73) 4 [(false, 0), (false, 0), (false, 0), (false, 1)] (hold1 _) rfl rfl ?_
  (conv => (arg 11; whnf; arg 1; whnf))
  (refine ws_tree (bind_c (brec_f ?hb)) ?_; (case hb => walk_at "xs_dec"))
  refine go2_run (m' := 62) (i' := 75) 11 [(false, 1), (false, 2), (false, 2), (false, 2), (false, 1), (false, 1), (false, 1)] (hold1 _) rfl rfl ?_
  (try (conv => (arg 8; dsimp only [List.set])))
  refine ws_slotI 1 rfl rfl ?_
  refine go2_run (m' := 62) (i' := 76) 20 [(false, 2), (false, 2), (false, 2), (false, 2), (false, 2), (false, 2), (false, 2), (false, 52), (false, 45), (false, 37), (false, 29), (false, 21), (false, 13), (false, 5), (false, 4), (false, 0)] (hold1 _) rfl (by kernel_rfl!) ?_
  (try (conv => (arg 8; dsimp only [List.set])))
  refine go2_run (m' := 62) (i' := 76) 1 [(false, 1)] (hold1 _) rfl rfl ?_
  (conv => (arg 11; whnf; arg 1; whnf; arg 1; whnf; arg 1; whnf))
  (refine ws_tree (bind_c (bind_c (bind_c (brec_f ?hb)))) ?_; (case hb => walk_at "xs_dec"))
  refine go2_run (m' := 62) (i' := 76) 1 [] (hold1 _) rfl rfl ?_
  (conv => (arg 11; whnf; arg 1; whnf; arg 1; whnf; arg 1; whnf; arg 1; whnf; arg 1; whnf; arg 1; whnf; arg 1; whnf))
  (refine ws_tree (bind_c (bind_c (bind_c (bind_c (bind_c (bind_c (bind_c (brec_f ?hb)))))))) ?_; (case hb => walk_at "xs_dec"))
  (conv => (arg 11; whnf; arg 1; whnf; arg 1; whnf; arg 1; whnf; arg 1; whnf))
  (refine ws_tree (bind_c (bind_c (bind_c (bind_c (brec_f ?hb))))) ?_; (case hb => walk_at "xs_dec"))
  refine go2_run (m' := 63) (i' := 76) 11 [(false, 0), (false, 0), (false, 0), (false, 2), (false, 2), (false, 2)] (hold1 _) rfl (by kernel_rfl!) ?_
  (conv => (arg 11; whnf; arg 1; whnf))
  (refine ws_tree (bind_c (brec_t ?hb)) ?_; (case hb => walk_at "xs_dec"))
  refine go2_run (m' := 63) (i' := 77) 18 [(false, 0), (false, 0), (false, 0), (false, 0), (false, 0), (false, 0), (false, 0), (false, 0), (false, 0), (false, 0), (false, 0), (true, 0), (false, 2)] (hold1 _) rfl (by kernel_rfl!) ?_
  (try (conv => (arg 8; dsimp only [List.set])))
  (conv => (arg 11; whnf; arg 1; whnf))
  refine ws_tree (bind_c (loop_c (dw2 rfl rfl))) ?_
  refine go2_run (m' := 63) (i' := 77) 2 [] (hold1 _) rfl (by kernel_rfl!) ?_
  (conv => (arg 11; whnf; arg 1; whnf))
  (refine ws_tree (bind_c (brec_f ?hb)) ?_; (case hb => walk_at "xs_dec"))
  refine go2_run (m' := 64) (i' := 77) 20 [(false, 2), (false, 2), (false, 0), (false, 3), (false, 3), (false, 3), (false, 3), (false, 3), (false, 3), (false, 3)] (hold1 _) rfl (by kernel_rfl!) ?_
  refine go2_run (m' := 64) (i' := 78) 11 [(false, 63), (false, 63), (false, 63)] (hold1 _) rfl rfl ?_
  (try (conv => (arg 8; dsimp only [List.set])))
  (try (conv => arg 11; whnf)); refine ws_end rfl ?_
  intro h' D
  conv => arg 1; whnf
  refine hQ _ _ _ ?_
  have D8 := D.D
  refine ⟨memStays D8, ⟨_, Mem.atC D8 0 _ _ rfl⟩, ?_⟩
  rintro ⟨hs, gs, ds, ts, oss⟩ x
  have x : Stays [] h' hs := x
  (try clear lr ln lo lw L)
  obtain ⟨n', en'⟩ : ∃ n', hs.objs.size = n' := ⟨_, rfl⟩
  have f0 := memAt D8 0 x rfl
  have hnn : n + 63 < n' := by
    have := Heap.lt_size f0
    rw [en', show ad n 63 = n + 63 from ad_eq _ _] at this
    exact this
  have hn2 : 119 < n' := by omega
  have f2 := memAt D8 2 x rfl
  have f3 := memAt D8 3 x rfl
  have f4 := memAt D8 4 x rfl
  have f39 := memAt D8 39 x rfl
  have f40 := memAt D8 40 x rfl
  have f47 := memAt D8 47 x rfl
  have f48 := memAt D8 48 x rfl
  have f62 := memAt D8 62 x rfl
  have Z2 : Zero hs c0 d0 l0 n0 s0 s4 := ⟨x.all _ _ (memStays D8 _ _ Z.e0 (by decide)), x.all _ _ (memStays D8 _ _ Z.e4 (by decide)), Z.fb, Z.fo⟩
  have X2 : (hd2.heap_39 w.params).In hs := (kx_stay X (memStays D8)).keeps x.all
  have f2x : hs.get? (ad n 61) = some ⟨.type "member_descriptor", none, .fields #[.str (Str.ofString "obj") (ad t 73), .ref (ad n 60), .builtin "proto.slot", .builtin "proto.slot#set", rawInt 0], #[]⟩ := f2.trans (congrArg some (by kernel_rfl!))
  obtain ⟨l4, n4, f4x⟩ := dict_at (kNames n) f4 (by kernel_rfl!) (by kernel_rfl!)
  have hold2 := all_cons (P := OldAt hs) (oldAt f2x) (all_cons (oldAt f3) (all_cons (oldAt f4x) (all_cons (oldAt f39) (all_cons (oldAt f40) (all_cons (oldAt f47) (all_cons (oldAt f48) (all_cons (oldAt f62) (olds_in (chg := []) X2 Z2.e0 Z2.e4 ⟨rfl, rfl, rfl, rfl, rfl, rfl⟩))))))))
  constructor
  · set_option smartUnfolding false in
    intro z tz
    refine ws_startO hold2 en' ?_
    refine go2_run (m' := 0) (i' := 0) 20 [(true, 1), (true, 1), (true, 1), (true, 1), (true, 1), (true, 1), (true, 1), (true, 1), (true, 1), (true, 1), (true, 1), (true, 1), (true, 1), (true, 1), (true, 1), (true, 1)] hold2 rfl (by kernel_rfl!) ?_
    refine go2_run (m' := 2) (i' := 0) 12 [(true, 1), (true, 1), (true, 1), (true, 1), (true, 1), (true, 1), (true, 1), (true, 2), (true, 1), (true, 1)] hold2 rfl rfl ?_
    ((set_option smartUnfolding false in refine ws_tree (bind_c (brec_f ?hb)) ?_); (case hb => set_option smartUnfolding true in walk_at "xs_dec"))
    refine go2_run (m' := 2) (i' := 0) 3 [(false, 0), (true, 1)] hold2 rfl rfl ?_
    ((set_option smartUnfolding false in refine ws_tree (brec_f ?hb) ?_); (case hb => set_option smartUnfolding true in walk_at "xs_dec"))
    refine go2_run (m' := 3) (i' := 2) 17 [(false, 0), (true, 1), (true, 1), (true, 2), (true, 5), (true, 5), (true, 6), (false, 0), (false, 0), (false, 0), (false, 0)] hold2 rfl rfl ?_
    (try (conv => (arg 8; dsimp only [List.set])))
    (try (conv => arg 11; whnf)); refine ws_stack ?_; intro p9 below L; (try clear lr ln lo lw); have lr := L.room (by exact Nat.le_of_ble_eq_true rfl); have ln : ∀ own lim, lim = recursionLimit → oNear.1 _ own lim = false := (fun own lim e => e ▸ L.near' (by exact Nat.le_of_ble_eq_true rfl) own); have lo : ∀ own lim, lim = recursionLimit → oOver.1 _ own lim = false := (fun own lim e => e ▸ L.over (by exact Nat.le_of_ble_eq_true rfl) own); have lw : ∀ own lim, lim = recursionLimit → oWarm.1 _ own lim = false := (fun own lim e => e ▸ L.warm (by exact Nat.le_of_ble_eq_true rfl) own)
    refine go2_run (m' := 3) (i' := 2) 1 [(true, 8)] hold2 rfl rfl ?_
    ((set_option smartUnfolding false in refine ws_tree (bind_c (brec_f ?hb)) ?_); (case hb => set_option smartUnfolding true in walk_at "xs_dec"))
    ((set_option smartUnfolding false in refine ws_tree (bind_c (brec_f ?hb)) ?_); (case hb => set_option smartUnfolding true in walk_at "xs_dec"))
    ((set_option smartUnfolding false in refine ws_tree (bind_c (brec_f ?hb)) ?_); (case hb => set_option smartUnfolding true in walk_at "xs_dec"))
    refine go2_run (m' := 3) (i' := 3) 20 [(false, 0), (false, 0), (false, 1), (true, 1), (true, 1), (true, 2), (false, 1), (true, 1), (false, 1), (true, 1), (false, 1)] hold2 rfl (by kernel_rfl!) ?_
    refine go2_run (m' := 3) (i' := 3) 13 [(true, 1), (true, 1), (true, 2), (true, 0), (true, 0), (true, 0), (true, 0), (true, 0), (false, 1), (true, 1)] hold2 rfl (by kernel_rfl!) ?_
    ((set_option smartUnfolding false in refine ws_tree (bind_c (brec_f ?hb)) ?_); (case hb => set_option smartUnfolding true in walk_at "xs_dec"))
    refine go2_run (m' := 3) (i' := 3) 8 [(true, 0), (true, 0), (true, 0), (true, 0), (false, 1), (true, 1)] hold2 rfl (by kernel_rfl!) ?_
    refine ws_slotI 1 rfl rfl ?_
    refine go2_run (m' := 3) (i' := 3) 3 [] hold2 rfl rfl ?_
    (try (conv => arg 11; whnf)); refine ws_end rfl ?_
    intro h9 D9
    refine ⟨_, _, _, rfl, rfl, memStays0 D9.D, ?_, _, Mem.at D9.D 1 (ad n' 1) _ (by kernel_rfl!), Mem.at D9.D 2 (ad n' 0) _ (by kernel_rfl!)⟩
    exact (D9.D.nw _ (List.mem_of_getElem? (i := 1) rfl)).2
  · set_option smartUnfolding false in
    intro hl ii jj ti tj a b ka kb
    obtain ⟨nm, q, pm, c', ctv, od, v0, tq, rest, osl, hla, hcc⟩ := hl
    obtain ⟨dA, hka, hdA⟩ := ka
    obtain ⟨dB, hkb, hdB⟩ := kb
    have e3 := f3
    refine lt_B3 (by decide) hka (lt_found e3 rfl rfl rfl f4 (by kernel_rfl!)) f39 rfl ?_
    have hold3 := all_cons (P := OldAt hs) (oldAt hla) (all_cons (oldAt hcc) (all_cons (oldAt hka) (all_cons (oldAt hdA) (all_cons (oldAt hkb) (all_cons (oldAt hdB) hold2)))))
    refine ws_startO hold3 en' ?_
    refine go2_run (m' := 1) (i' := 2) 11 [(true, 9), (true, 10), (false, 0), (false, 0), (false, 0), (false, 0)] hold3 rfl rfl ?_
    (try (conv => (arg 8; dsimp only [List.set])))
    (try (conv => arg 11; whnf)); refine ws_stack ?_; intro p9 below L; (try clear lr ln lo lw); have lr := L.room (by exact Nat.le_of_ble_eq_true rfl); have ln : ∀ own lim, lim = recursionLimit → oNear.1 _ own lim = false := (fun own lim e => e ▸ L.near' (by exact Nat.le_of_ble_eq_true rfl) own); have lo : ∀ own lim, lim = recursionLimit → oOver.1 _ own lim = false := (fun own lim e => e ▸ L.over (by exact Nat.le_of_ble_eq_true rfl) own); have lw : ∀ own lim, lim = recursionLimit → oWarm.1 _ own lim = false := (fun own lim e => e ▸ L.warm (by exact Nat.le_of_ble_eq_true rfl) own)
    refine go2_run (m' := 1) (i' := 2) 1 [(true, 14)] hold3 rfl rfl ?_
    (set_option smartUnfolding false in (refine ws_tree (bind_c (brec_f ?hb)) ?_; (case hb => walk_at "xs_dec")))
    (set_option smartUnfolding false in (refine ws_tree (bind_c (brec_f ?hb)) ?_; (case hb => walk_at "xs_dec")))
    (set_option smartUnfolding false in (refine ws_tree (bind_c (brec_f ?hb)) ?_; (case hb => walk_at "xs_dec")))
    refine go2_run (m' := 1) (i' := 3) 20 [(true, 13), (false, 0), (true, 2), (true, 7), (true, 7), (true, 8), (true, 2), (true, 7), (true, 7), (true, 8), (true, 6), (true, 6)] hold3 rfl (by kernel_rfl!) ?_
    refine go2_run (m' := 1) (i' := 3) 11 [(true, 7), (true, 7), (true, 8), (true, 6), (true, 6), (true, 6), (true, 2), (true, 7)] hold3 rfl (by kernel_rfl!) ?_
    (set_option smartUnfolding false in (refine ws_tree (bind_c (brec_f ?hb)) ?_; (case hb => walk_at "xs_dec")))
    refine go2_run (m' := 1) (i' := 4) 20 [(true, 6), (true, 6), (true, 6), (true, 6), (true, 2), (true, 7), (true, 2), (false, 0), (true, 4), (true, 7), (true, 7), (true, 8)] hold3 rfl (by kernel_rfl!) ?_
    refine go2_run (m' := 1) (i' := 4) 17 [(true, 4), (true, 7), (true, 7), (true, 8), (true, 6), (true, 6), (true, 7), (true, 7), (true, 8), (true, 6), (true, 6), (true, 6), (true, 4), (true, 7)] hold3 rfl (by kernel_rfl!) ?_
    (set_option smartUnfolding false in (refine ws_tree (bind_c (brec_f ?hb)) ?_; (case hb => walk_at "xs_dec")))
    refine go2_run (m' := 2) (i' := 5) 20 [(true, 6), (true, 6), (true, 6), (true, 6), (true, 4), (true, 7), (true, 4), (true, 0), (true, 0), (true, 1), (false, 0)] hold3 rfl (by kernel_rfl!) ?_
    refine go2_run (m' := 2) (i' := 6) 5 [(false, 0), (false, 0), (false, 0)] hold3 rfl rfl ?_
    (try (conv => (arg 8; dsimp only [List.set])))
    (try (conv => arg 11; whnf)); refine ws_stack ?_; intro p9 below L; (try clear lr ln lo lw); have lr := L.room (by exact Nat.le_of_ble_eq_true rfl); have ln : ∀ own lim, lim = recursionLimit → oNear.1 _ own lim = false := (fun own lim e => e ▸ L.near' (by exact Nat.le_of_ble_eq_true rfl) own); have lo : ∀ own lim, lim = recursionLimit → oOver.1 _ own lim = false := (fun own lim e => e ▸ L.over (by exact Nat.le_of_ble_eq_true rfl) own); have lw : ∀ own lim, lim = recursionLimit → oWarm.1 _ own lim = false := (fun own lim e => e ▸ L.warm (by exact Nat.le_of_ble_eq_true rfl) own)
    refine go2_run (m' := 2) (i' := 6) 1 [(true, 14)] hold3 rfl rfl ?_
    (set_option smartUnfolding false in (refine ws_tree (bind_c (brec_f ?hb)) ?_; (case hb => walk_at "xs_dec")))
    (set_option smartUnfolding false in (refine ws_tree (bind_c (brec_f ?hb)) ?_; (case hb => walk_at "xs_dec")))
    (set_option smartUnfolding false in (refine ws_tree (bind_c (brec_f ?hb)) ?_; (case hb => walk_at "xs_dec")))
    refine go2_run (m' := 2) (i' := 8) 16 [(false, 0), (false, 0)] hold3 rfl (by kernel_rfl!) ?_
    rcases Bool.eq_false_or_eq_true (w.params.followText "special-get-raises") with hf | hf
    · set_option smartUnfolding false in refine ws_tree (bind_c (onr_c (bind_c (bind_c (bind_c (bind_c (bind_c (bind_c (brec_t hf))))))))) ?_
      refine go2_run (m' := 2) (i' := 8) 3 [] hold3 rfl (by kernel_rfl!) ?_
      (try (conv => arg 11; whnf)); refine ws_end rfl ?_
      intro h9 D9
      exact ⟨_, rfl, decide_eq_decide.mpr (by omega), h9, _, rfl, memStays0 D9.D⟩
    · set_option smartUnfolding false in refine ws_tree (bind_c (onr_c (bind_c (bind_c (bind_c (bind_c (bind_c (bind_c (brec_f hf))))))))) ?_
      refine go2_run (m' := 2) (i' := 8) 3 [] hold3 rfl (by kernel_rfl!) ?_
      (try (conv => arg 11; whnf)); refine ws_end rfl ?_
      intro h9 D9
      exact ⟨_, rfl, decide_eq_decide.mpr (by omega), h9, _, rfl, memStays0 D9.D⟩
end Mine
end
section
open PySem PySem.W PyProof.Rows PySem.Calls PySem.Spec
set_option maxRecDepth 100000
namespace Mine
noncomputable def CodeObj (q : Str) (o : Obj) : Prop := ∃ od v0 t rest osl, o = ⟨.type "code", od, .fields ⟨v0 :: .str q t :: rest⟩, osl⟩
section
variable {M : Model} {A : Around} {E : Value → Shared → Prop} {s : Shared} {g : Heap} {L a c P : Addr} {m mg mb : Str → Option Value} {news keep : List (Addr × Obj)} {p : Program} {loose : List Str} {mean : ExcName → Option Value} {Q : Value → Shared → Prop}
  {qual : Str} {params : Arguments} {body : Expr} {scope : Scope} {pos : Pos} {env : Env}
theorem lam_made (F : Fr g L s.heap m) (N : News g L s.heap news) (T : Top p loose mean mg mb g) (C : CodeHd g c P) (hcd : env.code = .ref c) (hge : env.globals = mainGlobals) (hcl : closureFor scope env = pure [])
   (hdef : defaultsOf params env = ([], [])) (mP : (P, tabObj #[]) ∈ news) (hk : ∀ q ∈ keep, q ∈ news ∧ q.1 ≠ P)
   (h : ∀ f c' oc' ctv h' tk, Fr g L h' m → News g L h' ((f, kla_obj "<lambda>" (env.qual ++ "<lambda>") params body scope [] ((mg "__name__").getD .none) c' ctv) :: (c', oc') :: (P, tabObj (#[] ++ #[rawInt pos.line, rawInt pos.col, .ref c'])) :: keep) →
      CodeObj (env.qual ++ "<lambda>") oc' → (∀ q ∈ news, q.1 < c') → c' < f → Q (.ref f) { s with heap := h', toks := tk }) :
    wpAny M A (eval (.Lambda params body scope pos) env) Q E s := by
  refine kla_eval hdef ?_
  have hm := N _ mP
  have hgs := T.g.keeps F.keep
  obtain ⟨bm, ob, b1, b2, b3, b4, b5, b6⟩ := T.bmain
  have hgP : mainGlobals ≠ P := fun q => by
    obtain ⟨o, es, ep, e, hd, _⟩ := hgs
    rw [q, hm.1] at e; cases e; cases hd
  have hbP : bm ≠ P := fun q => by
    have e := F.keep _ _ b3
    rw [q, hm.1] at e; cases e; cases b4
  have hLs : L < s.heap.objs.size := F.ns.lt
  rw [makeFunction_eq]
  simp only [List.zip_nil_right, List.filterMap_nil, List.isEmpty_nil, if_true, pure_bind]
  unfold makeTail
  rw [hcl, hge]
  refine wpAny_bind (wpAny_pure ?_)
  simp only [List.isEmpty_nil, if_true]
  refine wpAny_bind (wpAny_pure ?_)
  refine wpAny_bind (wpAny_functionCodeX hcd ((C.keeps F.keep).code hm.1 True.intro) ((C.keeps F.keep).tab hm.1) rfl fun c' h' tk hx hge' hlt _ hrec htb hown => ?_)
  have hg' := hgs.extBut hx hgP
  refine wpAny_bind (wpAny_builtinsFor hg' b1 b2 (hx _ _ hbP (F.keep _ _ b3)) b4 b5 b6 ?_)
  refine wpAny_bind (wpAny_nsGet hg' ?_)
  refine wpAny_bind (wpAny_pure (wpAny_newObj_type ?_ (by size_fits)))
  have hLc : L < c' := Nat.lt_of_lt_of_le hLs hge'
  have old : ∀ b o, g.get? b = some o → h'.get? b = some o := fun b o e => hx b o (fun q => by rw [q, hm.2.2] at e; cases e) (F.keep b o e)
  have fresh : ∀ b, L < b → g.get? b = none := fun b hb => Heap.get?_none_of_le (Nat.le_trans F.above (Nat.le_of_lt hb))
  obtain ⟨c₂, oc, vs, t, e2, hoc, hd, hv⟩ := hrec
  cases e2
  obtain ⟨P', _, _, ⟨oc2, vs2, e3, e4, e5, _⟩, _⟩ := hown
  rw [hoc] at e3
  cases e3
  have hco : CodeObj (env.qual ++ "<lambda>") oc := by
    obtain ⟨cls, od, dt, osl⟩ := oc
    cases e4
    cases hd
    obtain ⟨l⟩ := vs
    match l, hv with
    | v0 :: x :: rest, hv => cases hv; exact ⟨_, _, _, _, _, rfl⟩
  refine h h'.objs.size c' oc .none _ tk ⟨(F.ns.extBut hx hm.2.1.symm).push _, fun b o e => Heap.get?_push_of_some _ (old b o e), F.above⟩ (fun q hq => ?_) hco
    (fun q hq => Nat.lt_of_lt_of_le (Heap.lt_size (N q hq).1) hge') hlt
  rcases List.mem_cons.mp hq with rfl | hq
  · exact ⟨Heap.get?_push_size _ rfl, Nat.ne_of_gt (Nat.lt_trans hLc hlt), fresh _ (Nat.lt_trans hLc hlt)⟩
  rcases List.mem_cons.mp hq with rfl | hq
  · exact ⟨Heap.get?_push_of_some _ hoc, Nat.ne_of_gt hLc, fresh _ hLc⟩
  rcases List.mem_cons.mp hq with rfl | hq
  · exact ⟨Heap.get?_push_of_some _ htb.2, hm.2⟩
  · have n := hk q hq
    exact ⟨Heap.get?_push_of_some _ (hx _ _ n.2 (N q n.1).1), (N q n.1).2⟩
end
end Mine
end
section
open PySem PySem.W PyProof.Rows PySem.Calls
set_option maxRecDepth 100000
namespace Mine
section
variable {w : World} {A : Around} {E : Value → Shared → Prop} {s : Shared} {g : Heap} {L : Addr} {m mg mb : Str → Option Value} {news keep : List (Addr × Obj)} {p : Program} {loose : List Str} {mean : ExcName → Option Value} {Q : Value → Shared → Prop}
theorem call_ctk {la : Addr} (X : (hd2.heap_39 w.params).In g) (T : Top p loose mean mg mb g) (F : Fr g L s.heap m) (N : News g L s.heap news) (hlow : 119 < g.objs.size) (m58 : (58, tabObj #[]) ∈ news) (hk : ∀ q ∈ keep, q ∈ news ∧ q.1 ≠ 58)
   (h : ∀ C ps h' tk', CtkPost w la s.heap C h' → Fr g L h' m → News g L h' ((58, tabObj ps) :: keep) → Q (.ref C) { s with heap := h', toks := tk' })
   (hh : A.handled = none := by exact rfl) (hd : A.depth ≤ (lvl 5).depth := by exact Nat.le_of_ble_eq_true rfl) (hu : A.units ≤ (lvl 5).units := by exact Nat.le_of_ble_eq_true rfl) :
   wpAny (model PySem.Challenge.pw_ik0002_02 w) A (call (.ref 63) [.ref la]) Q E s := by
  refine wpAny_lvl 5 ?_ hh hd hu
  obtain ⟨h0, gg, dd, tt, os⟩ := s
  obtain ⟨c0, d0, l0, n0, s0, s4, Z⟩ := zero_of X T
  refine ctk8 (Frag.In.keeps X F.keep) (Nat.lt_of_lt_of_le hlow (Nat.le_trans F.above (Nat.le_of_lt F.ns.lt))) (N _ m58).1 (Z.keeps F.keep) fun C h' tk' P => ?_
  obtain ⟨ps, e⟩ := P.2.1
  obtain ⟨F', N'⟩ := after (S := [58]) (news' := (58, tabObj ps) :: keep) F N P.1 (fun b hb => by rw [List.mem_singleton.mp hb]; exact (N _ m58).2) (fun q hq => by
      rcases List.mem_cons.mp hq with rfl | hq
      · exact .inr ⟨e, (N _ m58).2⟩
      · exact .inl ⟨(hk q hq).1, fun hm => (hk q hq).2 (List.mem_singleton.mp hm)⟩)
  exact h C ps h' tk' P F' N'
theorem range_ok : ∀ n < 22, Builtin.Range.small 0 ((n : Nat) : Int) 1 = true ∧ Builtin.Range.rangeSize 0 ((n : Nat) : Int) 1 = ((n : Nat) : Int) := by decide +kernel
theorem LamOk.keeps {h h' : Heap} {la : Addr} (x : LamOk w h la) (st : Stays [] h h') : LamOk w h' la := by
  obtain ⟨nm, q, pm, c', ctv, od, v0, t, rest, osl, e1, e2⟩ := x
  exact ⟨nm, q, pm, c', ctv, od, v0, t, rest, osl, st.all _ _ e1, st.all _ _ e2⟩
theorem call_sorted {la rg C : Addr} {h0 : Heap} {n : Nat} {t u v : Tok} (F : Fr g L s.heap m) (N : News g L s.heap news)
   (P : CtkPost w la h0 C s.heap) (hla : LamOk w s.heap la) (hr : IsRange s.heap rg 0 (n : Int) 1 t u v) (h2 : 2 ≤ n) (h22 : n < 22)
   (h : ∀ D (pl : List Value) c h' tk', pl.length = n → (∀ k, k < n → ∃ t, pl[k]? = some (Value.int ((n - 1 - k : Nat) : Int) t)) → Fr g L h' m → News g L h' ((D, listOf pl.toArray c) :: news) → (∀ q ∈ news, q.1 ≠ D) → Q (.ref D) { s with heap := h', toks := tk' })
   (hh : A.handled = none := by exact rfl) (hd : A.in1.in1.depth ≤ (lvl 3).depth := by exact Nat.le_of_ble_eq_true rfl) (hu : A.in1.in1.units ≤ (lvl 3).units := by exact Nat.le_of_ble_eq_true rfl) :
   wpAny (model PySem.Challenge.pw_ik0002_02 w) A (call (.builtin "sorted") [.ref rg] [(Str.ofString "key", .ref C)]) Q E s := by
  refine sorted_keys (N := n) (r := fun i j => decide (j < i)) (OK := fun ys => ∀ i, i < n → ∃ t, ys.getD i .none = .int (0 + i * 1) t) ?_ h2 (Nat.lt_trans h22 (by decide)) ?_ ?_ ?_ (sort_rev n h22).1 ?_
  · unfold argsOk; kernel_rfl
  · intro Q' hQ'
    refine collect_range (n := n) hh hr ?_ ?_ ?_ (fun h' tk ys st hl hy => hQ' h' tk ys st hl hy)
    · exact (range_ok n h22).1
    · exact (range_ok n h22).2
    · exact Nat.le_trans (Nat.le_of_lt h22) (by decide)
  · intro vs hl ok x hx h' tk st
    obtain ⟨z, tz, rfl⟩ : ∃ z tz, x = .int z tz := by
      obtain ⟨i, hi, rfl⟩ := List.mem_iff_getElem.mp hx
      obtain ⟨t, q⟩ := ok i (hl ▸ hi)
      rw [List.getD_eq_getElem?_getD, List.getElem?_eq_getElem hi] at q
      exact ⟨_, _, q⟩
    refine wpAny_lvl 3 (wpAny_mono ((P.2.2 { s with heap := h', toks := tk } st).1 z tz) (fun r s'' q => ?_) fun _ _ q => q) hh hd hu
    obtain ⟨a, h1, tk1, e1, e2, st1, _, k⟩ := q
    exact ⟨a, h1, tk1, e1, e2, st1, k⟩
  · intro vs hl ok i j hi hj h' tk k l st ki lj
    obtain ⟨ti, ei⟩ := ok i hi
    obtain ⟨tj, ej⟩ := ok j hj
    rw [ei] at ki
    rw [ej] at lj
    refine wpAny_lvl 3 (wpAny_mono ((P.2.2 { s with heap := h', toks := tk } st).2 (hla.keeps st) _ _ _ _ _ _ ki lj) (fun r s'' q => ?_) fun _ _ q => q) hh hd hu
    obtain ⟨e, h1, tk1, e2, st1⟩ := q
    refine ⟨e.trans ?_, h1, tk1, e2, st1⟩
    by_cases z : j < i
    · rw [decide_eq_true z, decide_eq_true (by omega)]
    · rw [decide_eq_false z, decide_eq_false (by omega)]
  · intro D h' tk c vs hl ok hD st e
    rw [(sort_rev n h22).2] at e
    have ap := new_apart F N hD
    obtain ⟨F', N'⟩ := after (S := []) (news' := (D, listOf ((List.range n).reverse.map fun i => vs.getD i .none).toArray c) :: news) F N st (fun b hb => nomatch hb) (fun q hq => by
      rcases List.mem_cons.mp hq with rfl | hq
      · exact .inr ⟨e, ap.1, ap.2.1⟩
      · exact .inl ⟨hq, List.not_mem_nil⟩)
    refine h D _ c h' tk ?_ ?_ F' N' ap.2.2
    · simp
    · intro k hk
      obtain ⟨t, q⟩ := ok (n - 1 - k) (by omega)
      refine ⟨t, ?_⟩
      rw [List.getElem?_map, List.getElem?_reverse (by simpa using hk)]
      simp only [List.length_range]
      rw [List.getElem?_range (by omega)]
      show some (vs.getD (n - 1 - k) .none) = _
      rw [q]
      have e : (0 + ((n - 1 - k : Nat) : Int) * 1) = ((n - 1 - k : Nat) : Int) := by omega
      rw [e]
end
end Mine
end
section
open PySem PySem.W PyProof.Rows PySem.Calls
set_option maxRecDepth 100000
set_option maxHeartbeats 4000000
namespace Mine
theorem fillT4Tail4 : (fun (_ : OpenLaw) (_ : Params → Frag) => True) PySem.Challenge.rw_ik0002_02 hd2.heap_39 := by
  k_fill
  trivial
theorem rows19 : True := by
  k_with_none
  k_with "call ref" => ((k_here; (with_reducible show wpAny _ _ (call (Value.ref 72) _) _ _ _); refine hold ?_))
  k_with "call ref" => ((k_here; (with_reducible show wpAny _ _ (call (Value.ref 49) _) _ _ _); refine hold ?_))
  k_with "call ref" => ((k_here; (with_reducible show wpAny _ _ (call (Value.ref 112) _) _ _ _); refine hold ?_))
  k_with "exec For" => ((k_here; with_reducible refine wpAny_For ?_ (fun _ => rfl)))
  k_with "call builtin:len" => ((k_here; (with_reducible show wpAny _ _ (call (Value.builtin "len") [Value.ref _]) _ _ _); k_dflt (refine' klen ?lz9 ?zz9 ?_; (case lz9 => exact News.isList (by k_asm) (by k_mem)); (case zz9 => omega))))
  k_with "subscriptTail" => ((k_here; (with_reducible show wpAny _ _ (subscriptTail _ _ (Value.ref _) (Value.int _ _)) _ _ _); k_dflt (refine' item_listL ?lz9 ?az9 ?bz9 ?xz9 ?_ ?sz9 ?tz9; (case lz9 => exact News.isList (by k_asm) (by k_mem)); (case az9 => omega); (case bz9 => omega); (case xz9 => assumption); (case sz9 => with_unfolding_all rfl); (case tz9 => (intro _; with_unfolding_all rfl)))))
  trivial
theorem datAll_rev : ∀ {vs : List Value} {ds : List Dat}, DatAll [] vs ds → DatAll [] vs.reverse ds.reverse
  | [], _, D => by cases D; exact .nil
  | _ :: _, _, D => by
    cases D with
    | cons a r =>
      rw [List.reverse_cons, List.reverse_cons]
      exact datAll_snoc a (datAll_rev r)
noncomputable def PushInv (g : Heap) (L row ra lx it D pb : Addr) (total : Int) (tot : Tok) (rest : List (Addr × Obj)) (pl rv : List Value) (cD : Nat) (s : Shared) (c : Nat) (s' : Shared) : Prop :=
  ∃ i np oi M, i ≤ pl.length ∧ c = pl.length - i ∧ oi.cls = .type "list_iterator" ∧ oi.data = .fields #[.ref D, .int ((i : Nat) : Int) 0] ∧
    (Fr g L s'.heap (t3M row ra lx total tot M) ∧ News g L s'.heap ((it, oi) :: (pb, listOf (rv.reverse.take i).toArray np) :: (D, listOf pl.toArray cD) :: rest)) ∧ s' = { s with heap := s'.heap, toks := s'.toks }
theorem tail4 {w : World} {g : Heap} {L row ra lx sg dx pb cl st sd rd c2 D : Addr} {s : Shared} {p : Program} {loose : List Str} {mg mb : Str → Option Value} {mean : ExcName → Option Value} {M : Str → Option Value}
   {E : Value → Shared → Prop} {Q : Flow → Shared → Prop} {tot : Tok} {n nr n3 np cD : Nat} {vals rv its pl : List Value} {l : List Turn} {oc fo sdo ro oc2 : Obj} {k1 k2 k3 k4 t t3 : Tok} {ln : Int} {ps ps2 ps3 : Array Value}
   (X : (hd2.heap_39 w.params).In g) (T : Top p loose mean mg mb g)
   (F : Fr g L s.heap (t3M row ra lx (totT 3 l) tot (fun y => if y = Str.ofString "places" then some (.ref D) else M y)))
   (N : News g L s.heap [(pb, listOf #[] np), (D, listOf pl.toArray cD), (ra, listOf rv.toArray nr), (sg, listOf its.toArray n3), (dx, dictOf (lexDict w k1 k2 k3 k4 t t3 ln st pb) 4), (row, listOf vals.toArray n), (cl, oc), (st, fo), (sd, sdo), (rd, ro), (c2, oc2), (lx, instObj 52 dx), (81, tabObj ps), (58, tabObj ps2), (114, tabObj ps3)])
   (C1 : CodeHd g 83 81)
   (hl : okT l) (h10 : l.length ≤ 10) (Dv : DatAll [] vals ((row0 l).map Dat.str)) (Dr : DatAll [] rv ((row0 l).map Dat.str)) (SS : Signs its []) (hln : ln = 2 + l.length)
   (hS : StrmIs (hd2.heap_39 w.params) 84 w cl sg st sd rd c2 oc fo sdo ro oc2) (nd : [cl, sg, st, sd, rd, lx, dx, pb].Nodup)
   (hpl : pl.length = 2 * l.length + 1) (hpk : ∀ k, k < 2 * l.length + 1 → ∃ t, pl[k]? = some (Value.int ((2 * l.length + 1 - 1 - k : Nat) : Int) t))
   (apP : ∀ y ∈ [D, ra, sg, dx, row, cl, st, sd, rd, c2, lx, 81, 58, 114], y ≠ pb) (apS : ∀ y ∈ [row, c2, lx, cl, st, sd, rd, 81, 58, 114], y ∉ [sg, dx, pb])
   (hQ : ∀ h' tk', (∃ m, Fr g L h' m) → (∃ p1 p2 p3, News g L h' [(81, tabObj p1), (58, tabObj p2), (114, tabObj p3)]) → Q (.ret (.bool true)) { s with heap := h', toks := tk' }) :
   ∀ s1 s2 s3 s4 s5 s6 s7 tail scope f osl nm qual params dV kV doc pm an ct oc od cd, (hd2.heap_39 w.params).lookup 119 = some ⟨oc, od, .func (fnOf nm qual params (s1 :: s2 :: s3 :: s4 :: s5 :: s6 :: s7 :: tail) scope dV kV doc pm an cd ct), osl⟩ →
   wpAny (model PySem.Challenge.pw_ik0002_02 w) (callerA.deeper (envOf qual scope L f cd)) (execs tail (envOf qual scope L f cd)) Q E s := by
   intro s1 s2 s3 s4 s5 s6 s7 tail scope f osl nm qual params dV kV doc pm an ct oc od cd ho
   refine' (fun (q : _ = _) => ?_) (Eq.trans (Eq.symm ho) ?h)
   case h => k_is
   cases q
   clear ho
   have hlen : ∀ {vs : List Value}, DatAll [] vs ((row0 l).map Dat.str) → vs.length = 2 * l.length + 1 := by
     intro vs D
     have q := D.length
     have q2 : (row0 l).length = (rowT l).length + 1 := rfl
     rw [rowT_len] at q2
     rw [List.length_map] at q
     omega
   have hrvl := hlen Dr
   have nd3 : [lx, dx, pb].Nodup := (List.nodup_append.mp (show ([cl, sg, st, sd, rd] ++ [lx, dx, pb]).Nodup from nd)).2.1
   have hvl := hlen Dv
   k_steps
   have hit := (new_apart F N (x := s.heap.objs.size) (Heap.get?_none_of_le (Nat.le_refl _))).2.2
   refine wpAny_pyIter_list (News.isList N (.tail _ (.head _))) ?_
   have F10 := Fr.push F (itObj D 0)
   have N10 := News.push F N (itObj D 0) rfl
   refine forLoopA (PushInv g L row ra lx s.heap.objs.size D pb (totT 3 l) tot [(ra, listOf rv.toArray nr), (sg, listOf its.toArray n3), (dx, dictOf (lexDict w k1 k2 k3 k4 t t3 ln st pb) 4), (row, listOf vals.toArray n), (cl, oc), (st, fo), (sd, sdo), (rd, ro), (c2, oc2), (lx, instObj 52 dx), (81, tabObj ps), (58, tabObj ps2), (114, tabObj ps3)] pl rv cD s) ?turn pl.length ?init (fun _ => rfl)
   case init => exact ⟨0, np, itObj D 0, _, Nat.zero_le _, rfl, rfl, rfl, ⟨F10, N10⟩, rfl⟩
   clear F N F10 N10
   rintro c s1 ⟨i, np1, oi, M1, hk, hc, ic, id, ⟨F5, N5⟩, hs1⟩ Nx R' hNx hR'
   have m1 := N5 _ (.head _)
   have htr := isIt2 m1.1 ic id
   have itr : ∀ q ∈ ((pb, listOf (rv.reverse.take i).toArray np1) :: (D, listOf pl.toArray cD) :: [(ra, listOf rv.toArray nr), (sg, listOf its.toArray n3), (dx, dictOf (lexDict w k1 k2 k3 k4 t t3 ln st pb) 4), (row, listOf vals.toArray n), (cl, oc), (st, fo), (sd, sdo), (rd, ro), (c2, oc2), (lx, instObj 52 dx), (81, tabObj ps), (58, tabObj ps2), (114, tabObj ps3)]), q.1 ≠ s.heap.objs.size := by
     intro q hq
     rcases List.mem_cons.mp hq with rfl | hq
     · exact hit (pb, listOf #[] np) (.head _)
     · exact hit _ (.tail _ hq)
   by_cases hlt' : i < pl.length
   · obtain ⟨tx, hx⟩ := hpk i (by omega)
     refine wpAny_pyNext_list_item htr (News.isList N5 (.tail _ (.tail _ (.head _)))) (by rw [List.getElem?_toArray]; exact hx) (fun h' hi hsb => ?_)
     obtain ⟨oi2, e2, ic2, id2⟩ := hi
     obtain ⟨F6, N6⟩ := after (S := [_]) (news' := ((_, oi2) :: (pb, listOf (rv.reverse.take i).toArray np1) :: (D, listOf pl.toArray cD) :: [(ra, listOf rv.toArray nr), (sg, listOf its.toArray n3), (dx, dictOf (lexDict w k1 k2 k3 k4 t t3 ln st pb) 4), (row, listOf vals.toArray n), (cl, oc), (st, fo), (sd, sdo), (rd, ro), (c2, oc2), (lx, instObj 52 dx), (81, tabObj ps), (58, tabObj ps2), (114, tabObj ps3)])) F5 N5 (fun b o e hb => hsb.extBut b o (by simpa using hb) e) (fun b hb => by rw [List.mem_singleton.mp hb]; exact m1.2) (fun q hq => by
      rcases List.mem_cons.mp hq with rfl | hq
      · exact .inr ⟨e2, m1.2⟩
      · exact .inl ⟨.tail _ hq, by rw [List.mem_singleton]; exact itr q hq⟩)
     obtain ⟨wd, tw, _, hrx⟩ : ∃ wd tw, True ∧ rv[(((2 * l.length + 1 - 1 - i : Nat)) : Int).toNat]? = some (.str wd tw) := by
      have hb : 2 * l.length + 1 - 1 - i < rv.length := by omega
      obtain ⟨wd, tw, _, e⟩ := datAll_get Dr (List.getElem?_eq_getElem hb)
      exact ⟨wd, tw, trivial, by rw [Int.toNat_natCast, List.getElem?_eq_getElem hb, e]⟩
     clear htr m1 F5 N5
     have hsnoc : rv.reverse.take (i + 1) = rv.reverse.take i ++ [Value.str wd tw] := by
       rw [List.take_add_one, List.getElem?_reverse (by omega)]
       rw [Int.toNat_natCast] at hrx
       rw [show rv.length - 1 - i = 2 * l.length + 1 - 1 - i from by omega, hrx]
       rfl
     k_steps
     refine held ?_
     refine call_push X T (by k_asm) (by k_asm) C1 (by k_mem) (by k_mem) (by k_mem) ?hz nd3 ((s.heap.objs.size, oi2) :: (D, listOf pl.toArray cD) :: [(ra, listOf rv.toArray nr), (sg, listOf its.toArray n3), (dx, dictOf (lexDict w k1 k2 k3 k4 t t3 ln st pb) 4), (row, listOf vals.toArray n), (cl, oc), (st, fo), (sd, sdo), (rd, ro), (c2, oc2), (lx, instObj 52 dx), (81, tabObj ps), (58, tabObj ps2), (114, tabObj ps3)]) ?hk ?_
     case hz => rw [List.length_take]; omega
     case hk =>
       intro q hq
       refine ⟨by
         rcases List.mem_cons.mp hq with rfl | hq
         · k_mem
         · exact .tail _ (.tail _ hq), ?_⟩
       rcases List.mem_cons.mp hq with rfl | hq
       · exact Ne.symm (hit (pb, listOf #[] np) (.head _))
       · exact apP _ (List.mem_map_of_mem (f := fun q : Addr × Obj => q.1) hq)
     intro v np2 h2 tk2 F7 N7
     k_steps
     rename Fr _ _ _ _ => F8
     rename News _ _ _ _ => N8
     refine hNx _ (.mk (pl.length - (i + 1)) (by omega) ⟨i + 1, np2, oi2, _, hlt', rfl, ic2, id2, ⟨t3_of F8 rfl rfl rfl rfl, fun q hq => ?_⟩, by rw [hs1]⟩)
     rcases List.mem_cons.mp hq with rfl | hq
     · exact N8 (_, oi2) (by k_mem)
     rcases List.mem_cons.mp hq with rfl | hq
     · rw [hsnoc]; exact N8 _ (.head _)
     · exact N8 _ (.tail _ (.tail _ hq))
   · have hx : pl[i]? = none := List.getElem?_eq_none (by omega)
     have hie : i = pl.length := by omega
     refine wpAny_pyNext_list_end rfl htr (News.isList N5 (.tail _ (.tail _ (.head _)))) (by rw [List.getElem?_toArray]; exact hx) (fun h' hsb => ?_)
     obtain ⟨F6, N6⟩ := after (S := [_]) (news' := ((pb, listOf (rv.reverse.take i).toArray np1) :: (D, listOf pl.toArray cD) :: [(ra, listOf rv.toArray nr), (sg, listOf its.toArray n3), (dx, dictOf (lexDict w k1 k2 k3 k4 t t3 ln st pb) 4), (row, listOf vals.toArray n), (cl, oc), (st, fo), (sd, sdo), (rd, ro), (c2, oc2), (lx, instObj 52 dx), (81, tabObj ps), (58, tabObj ps2), (114, tabObj ps3)])) F5 N5 (fun b o e hb => hsb b o (by simpa using hb) e) (fun b hb => by rw [List.mem_singleton.mp hb]; exact m1.2) (fun q hq => .inl ⟨.tail _ hq, by rw [List.mem_singleton]; exact itr q hq⟩)
     clear htr m1 F5 N5
     rw [show rv.reverse.take i = rv.reverse from List.take_of_length_le (by rw [List.length_reverse]; omega)] at N6
     have hlr : rv.reverse.length ≤ 100000 := by rw [List.length_reverse]; omega
     have hlr2 : (row0 l).reverse.length ≤ 100000 := by
       have q := Dr.length
       rw [List.length_map] at q
       rw [List.length_reverse]; omega
     k_steps
     refine hR' _ _ ?_
     show wpAny _ _ (execs _ _) _ _ _
     k_steps
     refine held ?_
     refine call_all X T (by k_asm) (by k_asm) C1 hS (by k_mem) (by k_mem) (by k_mem) (by k_mem) (by k_mem) (by k_mem) (by k_mem) (by k_mem) (by k_mem) nd SS (ps := (row0 l).reverse) (by rw [List.map_reverse]; exact datAll_rev Dr) hlr hlr2 (told_back hl)
       [(row, listOf vals.toArray n), (lx, instObj 52 dx), (81, tabObj ps), (58, tabObj ps2), (114, tabObj ps3)] ?_ ?_
     · intro q hq
       refine ⟨?_, apS _ ?_⟩
       · simp only [List.mem_cons, List.not_mem_nil, or_false] at hq
         rcases hq with rfl | rfl | rfl | rfl | rfl <;> k_mem
       · simp only [List.mem_cons, List.not_mem_nil, or_false] at hq ⊢
         rcases hq with rfl | rfl | rfl | rfl | rfl <;> simp
     intro ba bv nb its2 n4 np4 ln4 j1 j2 j3 j4 jt jt3 h6 tk6 hDb hS2 hln2 ap3 F9 N9
     have hl4 : ln4 = 2 + (l.length : Int) := by
       have e0 : nls ([] : List Str) = 0 := rfl
       rw [e0] at hln2
       omega
     subst hl4
     clear hit itr hlt' hx hie hsb hpk hpl apP apS ap3 hlr hlr2 ic id hk hc nd nd3 hS hS2 hlen Dr hrvl hln2 hln SS
     have hcmp : ((2 : Int) + (l.length : Int) != ((vals.length : Int)).fdiv 2 + 2) = false := by
       rw [bne_eq_false_iff_eq, Int.fdiv_eq_ediv_of_nonneg _ (by decide), hvl]
       omega
     iterate 22 walk1
     rw [hcmp]
     iterate 18 walk1
     refine' krv_lit (zs := vals.reverse) ?F ?N ?l (.int _ _) ?e ?_ ?s ?t ?z
     case F => k_asm
     case N => k_asm
     case l => exact News.isList (by k_asm) (by k_mem)
     case e => exact rfl
     case s => with_unfolding_all rfl
     case t => (intro _; with_unfolding_all rfl)
     case z => rw [sizeLine_eq, List.size_toArray]; omega
     intro rb h7 F8 N8 l8
     have hDr := datAll_rev Dv
     rw [← List.map_reverse] at hDr
     have hrow := row_ok hl
     have hrow2 : ∀ d ∈ (row0 l).reverse.map Dat.str, kqdOk 8 d = true := fun d hd => hrow d (by
       rw [List.map_reverse] at hd; exact List.mem_reverse.mp hd)
     have hbl : bv.length ≤ 100000 := by
       have q := hDb.length
       have q2 := Dv.length
       rw [List.length_map, List.length_reverse] at q
       rw [List.length_map] at q2
       omega
     have hl4 : l.length ≤ 40000 := by omega
     k_steps
     refine held ?_
     refine call_redback X T (by k_asm) (by k_asm) C1 hl hl4 (neN (by omega)) (by k_mem) (by k_mem) hbl hDb ?_
     intro aX tX naX hX tkX FX NX
     k_steps
     rename Fr _ _ _ _ => Fe
     rename News _ _ _ _ => Ne
     rw [hs1]
     exact hQ _ _ ⟨_, Fe⟩ ⟨_, _, _, news_sub (news' := [(81, tabObj ps), (58, tabObj ps2), (114, tabObj ps3)]) Ne (by
       refine all_cons ?_ (all_cons ?_ (all_cons ?_ all_nil)) <;> k_mem)⟩
end Mine
end
section
open PySem PySem.W PyProof.Rows PySem.Calls
set_option maxRecDepth 100000
set_option maxHeartbeats 4000000
namespace Mine
theorem fillT3Tail3 : (fun (_ : OpenLaw) (_ : Params → Frag) => True) PySem.Challenge.rw_ik0002_02 hd2.heap_39 := by
  k_fill
  trivial
theorem rows20 : True := by
  k_with_none
  k_with "call ref" => ((k_here; (with_reducible show wpAny _ _ (call (Value.ref 72) _) _ _ _); refine hold ?_))
  k_with "call ref" => ((k_here; (with_reducible show wpAny _ _ (call (Value.ref 63) _) _ _ _); refine hold ?_))
  k_with "eval Lambda" => ((refine hold ?_))
  k_with "call builtin:len" => ((k_here; (with_reducible show wpAny _ _ (call (Value.builtin "len") [Value.ref _]) _ _ _); k_dflt (refine' klen ?lz9 ?zz9 ?_; (case lz9 => exact News.isList (by k_asm) (by k_mem)); (case zz9 => omega))))
  trivial
theorem News.cons {g h : Heap} {L a : Addr} {o : Obj} {news : List (Addr × Obj)} (N : News g L h news) (e : h.get? a = some o) (h1 : a ≠ L) (h2 : g.get? a = none) : News g L h ((a, o) :: news) := fun q hq => by
  rcases List.mem_cons.mp hq with rfl | hq
  · exact ⟨e, h1, h2⟩
  · exact N q hq
theorem range_obj {h : Heap} {rg : Addr} {n : Int} {t u v : Tok} (hr : IsRange h rg 0 n 1 t u v) : ∃ o, h.get? rg = some o ∧ ∀ h' : Heap, h'.get? rg = some o → IsRange h' rg 0 n 1 t u v := ⟨_, hr, fun _ e => e⟩
theorem lam_obj {w : World} {g h : Heap} {L f c' : Addr} {o oc' : Obj} {rest : List (Addr × Obj)} (N : News g L h ((f, o) :: (c', oc') :: rest)) (hok : ∀ h' : Heap, h'.get? f = some o → h'.get? c' = some oc' → LamOk w h' f) :
   ∃ lo, News g L h ((f, lo) :: (c', oc') :: rest) ∧ (∀ h' : Heap, h'.get? f = some lo → h'.get? c' = some oc' → LamOk w h' f) := ⟨o, N, hok⟩
theorem keep_of {P : Addr} {news keep : List (Addr × Obj)} (h : ∀ q ∈ keep, q ∈ news) (h2 : ∀ y ∈ keep.map (·.1), y ≠ P) : ∀ q ∈ keep, q ∈ news ∧ q.1 ≠ P := fun q hq => ⟨h q hq, h2 _ (List.mem_map_of_mem hq)⟩
theorem ne_cons {P x : Addr} {l : List Addr} (e : x ≠ P) (h : ∀ y ∈ l, y ≠ P) : ∀ y ∈ x :: l, y ≠ P := fun y hy => by
  rcases List.mem_cons.mp hy with rfl | hy
  · exact e
  · exact h y hy
theorem tail3 {w : World} {g : Heap} {L row ra lx sg dx pb cl st sd rd c2 : Addr} {s : Shared} {p : Program} {loose : List Str} {mg mb : Str → Option Value} {mean : ExcName → Option Value} {M : Str → Option Value}
   {E : Value → Shared → Prop} {Q : Flow → Shared → Prop} {tot : Tok} {n nr n3 np : Nat} {vals rv its : List Value} {l : List Turn} {oc fo sdo ro oc2 : Obj} {k1 k2 k3 k4 t t3 : Tok} {ln : Int} {ps : Array Value}
   (X : (hd2.heap_39 w.params).In g) (T : Top p loose mean mg mb g)
   (F : Fr g L s.heap (t3M row ra lx (totT 3 l) tot M))
   (N : News g L s.heap [(ra, listOf rv.toArray nr), (sg, listOf its.toArray n3), (dx, dictOf (lexDict w k1 k2 k3 k4 t t3 ln st pb) 4), (pb, listOf #[] np), (row, listOf vals.toArray n), (cl, oc), (st, fo), (sd, sdo), (rd, ro), (c2, oc2), (lx, instObj 52 dx), (81, tabObj ps), (58, tabObj #[]), (114, tabObj #[])])
   (C1 : CodeHd g 83 81) (C2 : CodeHd g 62 58) (C3 : CodeHd g 118 114) (hlow : 119 < g.objs.size)
   (hl : okT l) (h10 : l.length ≤ 10) (h1 : 1 ≤ l.length) (Dv : DatAll [] vals ((row0 l).map Dat.str)) (Dr : DatAll [] rv ((row0 l).map Dat.str)) (SS : Signs its []) (hln : ln = 2 + l.length)
   (hS : StrmIs (hd2.heap_39 w.params) 84 w cl sg st sd rd c2 oc fo sdo ro oc2) (nd : [cl, sg, st, sd, rd, lx, dx, pb].Nodup)
   (apT : ∀ y ∈ [ra, sg, dx, pb, row, cl, st, sd, rd, c2, lx], y ≠ 81 ∧ y ≠ 58 ∧ y ≠ 114) (ap : ∀ x ∈ [ra, row, c2], x ∉ [sg, dx, pb])
   (hQ : ∀ h' tk', (∃ m, Fr g L h' m) → (∃ p1 p2 p3, News g L h' [(81, tabObj p1), (58, tabObj p2), (114, tabObj p3)]) → Q (.ret (.bool true)) { s with heap := h', toks := tk' }) :
   ∀ s1 s2 s3 s4 s5 s6 tail scope f osl nm qual params dV kV doc pm an ct oc od cd, (hd2.heap_39 w.params).lookup 119 = some ⟨oc, od, .func (fnOf nm qual params (s1 :: s2 :: s3 :: s4 :: s5 :: s6 :: tail) scope dV kV doc pm an cd ct), osl⟩ →
   wpAny (model PySem.Challenge.pw_ik0002_02 w) (callerA.deeper (envOf qual scope L f cd)) (execs tail (envOf qual scope L f cd)) Q E s := by
   intro s1 s2 s3 s4 s5 s6 tail scope f osl nm qual params dV kV doc pm an ct oc od cd ho
   refine' (fun (q : _ = _) => ?_) (Eq.trans (Eq.symm ho) ?h)
   case h => k_is
   cases q
   clear ho
   have hrvl : rv.length = 2 * l.length + 1 := by
     have q := Dr.length
     have q2 : (row0 l).length = (rowT l).length + 1 := rfl
     rw [rowT_len] at q2
     rw [List.length_map] at q
     omega
   have hrv : rv.length ≤ 21 := by omega
   have hrg := new_apart F N (x := s.heap.objs.size) (Heap.get?_none_of_le (Nat.le_refl _))
   k_steps
   refine held ?_
   rename IsRange _ _ _ _ _ _ _ _ => hrange
   rename Fr _ _ _ _ => F1
   rename News _ _ _ _ => N1
   obtain ⟨rgo, hro, hrk⟩ := range_obj hrange
   have N2 := Mine.News.cons N1 hro hrg.1 hrg.2.1
   refine lam_made (P := 114) (c := 118) (keep := [(s.heap.objs.size, rgo), (81, tabObj ps), (58, tabObj #[]), (ra, listOf rv.toArray nr), (sg, listOf its.toArray n3), (dx, dictOf (lexDict w k1 k2 k3 k4 t t3 ln st pb) 4), (pb, listOf #[] np), (row, listOf vals.toArray n), (cl, oc), (st, fo), (sd, sdo), (rd, ro), (c2, oc2), (lx, instObj 52 dx)]) F1 N2 T C3 rfl rfl rfl rfl (by k_mem) (keep_of ?_ ?_) ?_
   · refine all_cons ?_ (all_cons ?_ (all_cons ?_ (all_cons ?_ (all_cons ?_ (all_cons ?_ (all_cons ?_ (all_cons ?_ (all_cons ?_ (all_cons ?_ (all_cons ?_ (all_cons ?_ (all_cons ?_ (all_cons ?_ all_nil))))))))))))) <;> k_mem
   · exact ne_cons (Ne.symm (hrg.2.2 (114, _) (by k_mem))) (ne_cons (show (81 : Addr) ≠ 114 by decide) (ne_cons (show (58 : Addr) ≠ 114 by decide) fun y hy => (apT y hy).2.2))
   intro la c' oc' ctv h2 tk2 F3 N3 hco hlc hcl
   have hc58 := hlc (58, _) (by k_mem)
   have hc81 := hlc (81, _) (by k_mem)
   clear N2 N1 F1
   obtain ⟨lo, N3', hlk⟩ := lam_obj (w := w) N3 (by
     intro h' e1 e2
     obtain ⟨od, v0, t0, rest, osl, rfl⟩ := hco
     exact ⟨Str.ofString "<lambda>", _, (mg (Str.ofString "__name__")).getD .none, c', ctv, od, v0, t0, rest, osl, e1.trans (congrArg some (by kernel_rfl)), e2⟩)
   clear N3
   k_steps
   refine held ?_
   refine call_ctk (keep := [(la, lo), (c', oc'), (114, tabObj (#[] ++ #[rawInt 125, rawInt 53, .ref c'])), (s.heap.objs.size, rgo), (81, tabObj ps), (ra, listOf rv.toArray nr), (sg, listOf its.toArray n3), (dx, dictOf (lexDict w k1 k2 k3 k4 t t3 ln st pb) 4), (pb, listOf #[] np), (row, listOf vals.toArray n), (cl, oc), (st, fo), (sd, sdo), (rd, ro), (c2, oc2), (lx, instObj 52 dx)]) X T F3 N3' hlow (by k_mem) (keep_of ?_ ?_) ?_
   · refine all_cons ?_ (all_cons ?_ (all_cons ?_ (all_cons ?_ (all_cons ?_ (all_cons ?_ (all_cons ?_ (all_cons ?_ (all_cons ?_ (all_cons ?_ (all_cons ?_ (all_cons ?_ (all_cons ?_ (all_cons ?_ (all_cons ?_ (all_cons ?_ all_nil))))))))))))))) <;> k_mem
   · exact ne_cons (Nat.ne_of_gt (Nat.lt_trans hc58 hcl)) (ne_cons (Nat.ne_of_gt hc58) (ne_cons (show (114 : Addr) ≠ 58 by decide) (ne_cons (Ne.symm (hrg.2.2 (58, _) (by k_mem))) (ne_cons (show (81 : Addr) ≠ 58 by decide) fun y hy => (apT y hy).2.1))))
   intro C ps2 h3 tk3 hP F4 N4
   clear N3' F3
   k_steps
   refine call_sorted (n := rv.length) F4 N4 hP (hlk _ (N4 (la, lo) (by k_mem)).1 (N4 (c', oc') (by k_mem)).1) (hrk _ (N4 (s.heap.objs.size, rgo) (by k_mem)).1) (by omega) (by omega) ?_
   intro D pl cD h4 tk4 hpl hpk F5 N5 hDn
   have q3 := hDn (pb, _) (by k_mem)
   have nd0 := nd
   simp only [List.nodup_cons, List.mem_cons, List.not_mem_nil, or_false, not_or, List.nodup_nil, and_true, not_false_eq_true] at nd0
   obtain ⟨⟨a1, a2, a3, a4, a5, a6, a7⟩, ⟨b1, b2, b3, b4, b5, b6⟩, ⟨e1, e2, e3, e4, e5⟩, ⟨d1, d2, d3, d4⟩, ⟨x1, x2, x3⟩, ⟨f1, f2⟩, g1⟩ := nd0
   have apsg := apT sg (by simp)
   have apdx := apT dx (by simp)
   have appb := apT pb (by simp)
   have apra := ap ra (by simp)
   have aprow := ap row (by simp)
   have apc2 := ap c2 (by simp)
   simp only [List.mem_cons, List.not_mem_nil, or_false, not_or] at apra aprow apc2
   iterate 2 walk1
   rename Fr _ _ _ _ => Fe
   rename News _ _ _ _ => Nz
   have N6 := news_sub (news' := [(pb, listOf #[] np), (D, listOf pl.toArray cD), (ra, listOf rv.toArray nr), (sg, listOf its.toArray n3), (dx, dictOf (lexDict w k1 k2 k3 k4 t t3 ln st pb) 4), (row, listOf vals.toArray n), (cl, oc), (st, fo), (sd, sdo), (rd, ro), (c2, oc2), (lx, instObj 52 dx), (81, tabObj ps), (58, tabObj ps2), (114, tabObj (#[] ++ #[rawInt 125, rawInt 53, .ref c']))]) Nz (by
     refine all_cons ?_ (all_cons ?_ (all_cons ?_ (all_cons ?_ (all_cons ?_ (all_cons ?_ (all_cons ?_ (all_cons ?_ (all_cons ?_ (all_cons ?_ (all_cons ?_ (all_cons ?_ (all_cons ?_ (all_cons ?_ (all_cons ?_ all_nil)))))))))))))) <;> k_mem)
   refine tail4 (D := D) X T (t3_of Fe rfl rfl rfl rfl) N6 C1 hl h10 Dv Dr SS hln hS nd (hpl.trans hrvl) (by rw [← hrvl]; exact hpk) ?_ ?_ ?_ _ _ _ _ _ _ _ _ _ _ _ _ _ _ _ _ _ _ _ _ _ _ _ (by k_is)
   · refine ne_cons (Ne.symm q3) (ne_cons apra.2.2 (ne_cons b6 (ne_cons g1 (ne_cons aprow.2.2 (ne_cons a7 (ne_cons e5 (ne_cons d4 (ne_cons x3 (ne_cons apc2.2.2 (ne_cons f2 (ne_cons (Ne.symm appb.1) (ne_cons (Ne.symm appb.2.1) (ne_cons (Ne.symm appb.2.2) ?_)))))))))))))
     intro y hy; cases hy
   · intro y hy
     revert y
     refine all_cons ?_ (all_cons ?_ (all_cons ?_ (all_cons ?_ (all_cons ?_ (all_cons ?_ (all_cons ?_ (all_cons ?_ (all_cons ?_ (all_cons ?_ all_nil)))))))))
     · exact not3 aprow.1 aprow.2.1 aprow.2.2
     · exact not3 apc2.1 apc2.2.1 apc2.2.2
     · exact not3 (Ne.symm b4) f1 f2
     · exact not3 a1 a6 a7
     · exact not3 (Ne.symm b1) e4 e5
     · exact not3 (Ne.symm b2) d3 d4
     · exact not3 (Ne.symm b3) x2 x3
     · exact not3 (Ne.symm apsg.1) (Ne.symm apdx.1) (Ne.symm appb.1)
     · exact not3 (Ne.symm apsg.2.1) (Ne.symm apdx.2.1) (Ne.symm appb.2.1)
     · exact not3 (Ne.symm apsg.2.2) (Ne.symm apdx.2.2) (Ne.symm appb.2.2)
   · exact hQ
end Mine
end
section
open PySem PySem.W PyProof.Rows PySem.Calls
set_option maxRecDepth 100000
set_option maxHeartbeats 4000000
namespace Mine
theorem fillTTail2 : (fun (_ : OpenLaw) (_ : Params → Frag) => True) PySem.Challenge.rw_ik0002_02 hd2.heap_39 := by
  k_fill
  trivial
theorem rows21 : True := by
  k_with_none
  k_with "call ref" => ((k_here; (with_reducible show wpAny _ _ (call (Value.ref 72) _) _ _ _); refine hold ?_))
  k_with "call ref" => ((k_here; (with_reducible show wpAny _ _ (call (Value.ref 63) _) _ _ _); refine hold ?_))
  trivial
theorem tail2 {w : World} {g : Heap} {L row : Addr} {s : Shared} {p : Program} {loose : List Str} {mg mb : Str → Option Value} {mean : ExcName → Option Value} {M : Str → Option Value}
   {E : Value → Shared → Prop} {Q : Flow → Shared → Prop} {text : Str} {tt tot : Tok} {n : Nat} {vals : List Value} {l : List Turn}
   (X : (hd2.heap_39 w.params).In g) (T : Top p loose mean mg mb g)
   (F : Fr g L s.heap (lpM row text tt (totT 3 l) tot M))
   (N : News g L s.heap [(row, listOf vals.toArray n), (81, tabObj #[]), (58, tabObj #[]), (114, tabObj #[])])
   (C1 : CodeHd g 83 81) (C2 : CodeHd g 62 58) (C3 : CodeHd g 118 114) (hlow : 119 < g.objs.size)
   (hl : okT l) (h10 : l.length ≤ 10) (h01 : 1 ≤ l.length) (D : DatAll [] vals ((row0 l).map Dat.str)) (hT : text.cps.toList = text0 l)
   (hQ : ∀ h' tk', (∃ m, Fr g L h' m) → (∃ p1 p2 p3, News g L h' [(81, tabObj p1), (58, tabObj p2), (114, tabObj p3)]) → Q (.ret (.bool true)) { s with heap := h', toks := tk' }) :
   ∀ s1 s2 tail scope f osl nm qual params dV kV doc pm an ct oc od cd, (hd2.heap_39 w.params).lookup 119 = some ⟨oc, od, .func (fnOf nm qual params (s1 :: s2 :: tail) scope dV kV doc pm an cd ct), osl⟩ →
   wpAny (model PySem.Challenge.pw_ik0002_02 w) (callerA.deeper (envOf qual scope L f cd)) (execs tail (envOf qual scope L f cd)) Q E s := by
   intro s1 s2 tail scope f osl nm qual params dV kV doc pm an ct oc od cd ho
   refine' (fun (q : _ = _) => ?_) (Eq.trans (Eq.symm ho) ?h)
   case h => k_is
   cases q
   clear ho
   have htx : text.length ≤ 100000 := by
     have q1 : text.length = text.cps.toList.length := rfl
     rw [hT] at q1
     have := text0_len hl
     omega
   have hrow := row_ok hl
   have hvl : vals.length = 2 * l.length + 1 := by
     have q := D.length
     have q2 : (row0 l).length = (rowT l).length + 1 := rfl
     rw [rowT_len] at q2
     rw [List.length_map] at q
     omega
   have nr81 : row ≠ 81 := news_ne N (.head _) (.tail _ (.head _)) lt_ne
   have nr58 : row ≠ 58 := news_ne N (.head _) (.tail _ (.tail _ (.head _))) lt_ne
   have nr114 : row ≠ 114 := news_ne N (.head _) (.tail _ (.tail _ (.tail _ (.head _)))) lt_ne
   have hsg := fun its D => signs_text (its := its) hl h10 hT D
   have htold := told_text hl
   have hnls := nls_text hl
   k_steps
   refine call_stream1 X T (by assumption) (by assumption) C1 (.tail _ (.head _)) htx [(row, listOf vals.toArray n), (58, tabObj #[]), (114, tabObj #[])] ?_ ?_
   · refine all_cons ?_ (all_cons ?_ (all_cons ?_ all_nil))
     · exact ⟨.head _, nr81⟩
     · exact ⟨.tail _ (.tail _ (.head _)), by decide⟩
     · exact ⟨.tail _ (.tail _ (.tail _ (.head _))), by decide⟩
   intro cl sg st sd rd its n1 c1 c2 oc fo sdo ro oc2 h1 tk1 hS hR hDs nd1 ap1 F1 N1
   clear N F
   k_steps
   refine lexer_made X T (by assumption) (by assumption) ?_
   intro lx dx pb np k1 k2 k3 k4 t t3 h2 tk2 F2 N2 ap2 nd2
   clear N1 F1
   k_steps
   refine call_all X T (by assumption) (by assumption) C1 hS (by k_mem) (by k_mem) (by k_mem) (by k_mem) (by k_mem) (by k_mem) (by k_mem) (by k_mem) (by k_mem) ?_ (hsg _ hDs) .nil (Nat.zero_le _) ?_ htold
     [(row, listOf vals.toArray n), (c2, oc2), (81, tabObj #[rawInt 89, rawInt 13, .ref c1, rawInt 90, rawInt 18, .ref c2]), (58, tabObj #[]), (114, tabObj #[])] ?_ ?_
   · refine nodup8 nd1 nd2 fun x hx => ?_
     revert x
     refine all_cons ?_ (all_cons ?_ (all_cons ?_ (all_cons ?_ (all_cons ?_ all_nil))))
     · exact ap2 (_, oc) (by k_mem)
     · exact ap2 (_, listOf its.toArray n1) (by k_mem)
     · exact ap2 (_, fo) (by k_mem)
     · exact ap2 (_, sdo) (by k_mem)
     · exact ap2 (_, ro) (by k_mem)
   · have q2 := D.length
     rw [List.length_map] at q2
     omega
   · intro q hq
     have z := fun q hq => (ap2 q hq).2
     revert q
     refine all_cons ?_ (all_cons ?_ (all_cons ?_ (all_cons ?_ (all_cons ?_ all_nil))))
     · exact ⟨by k_mem, not3 (notin_of ap1 (.head _) (by simp)) (z (row, _) (by k_mem)).1 (z (row, _) (by k_mem)).2⟩
     · exact ⟨by k_mem, not3 (news_ne N2 (by k_mem) (by k_mem) (code_ne hR)) (z (c2, oc2) (by k_mem)).1 (z (c2, oc2) (by k_mem)).2⟩
     · exact ⟨by k_mem, not3 (notin_of ap1 (.tail _ (.head _)) (by simp)) (z (81, _) (by k_mem)).1 (z (81, _) (by k_mem)).2⟩
     · exact ⟨by k_mem, not3 (notin_of ap1 (.tail _ (.tail _ (.head _))) (by simp)) (z (58, _) (by k_mem)).1 (z (58, _) (by k_mem)).2⟩
     · exact ⟨by k_mem, not3 (notin_of ap1 (.tail _ (.tail _ (.tail _ (.head _)))) (by simp)) (z (114, _) (by k_mem)).1 (z (114, _) (by k_mem)).2⟩
   intro wa wv nw its' n2 np' ln' k1' k2' k3' k4' t' t3' h3 tk3 hDw hSS hln ap3 F3 N3
   have hwl : wv.length ≤ 100000 := by
     have q := hDw.length
     have q2 := D.length
     omega
   clear N2 F2
   k_steps
   refine held ?_
   refine call_redstep X T (by k_asm) (by k_asm) C1 hl (neN (by omega)) (by k_mem) (by k_mem) hwl hDw ?_
   intro aX tX naX hX tkX FX NX

   k_steps
   rename News _ _ _ _ => N9
   have N4 := news_sub (news' := [(row, listOf vals.toArray n), (c2, oc2), (81, tabObj #[rawInt 89, rawInt 13, .ref c1, rawInt 90, rawInt 18, .ref c2]), (58, tabObj #[]), (114, tabObj #[])]) N9 (by
     refine all_cons ?_ (all_cons ?_ (all_cons ?_ (all_cons ?_ (all_cons ?_ all_nil)))) <;> k_mem)
   have c81 := Ne.symm (notin_of (x := c2) ap1 (.tail _ (.head _)) (by simp))
   have c58 := Ne.symm (notin_of (x := c2) ap1 (.tail _ (.tail _ (.head _))) (by simp))
   have c114 := Ne.symm (notin_of (x := c2) ap1 (.tail _ (.tail _ (.tail _ (.head _)))) (by simp))
   clear N9 ap3 ap2 ap1 nd1 nd2 hSS hln hS hDs
   rename Fr _ _ _ _ => F9
   refine call_stream2 X T F9 N4 C1 htx (by k_mem) (by k_mem) hR ?_
   intro cl' sg' st' sd' rd' itsB nB oc' fo' sdo' ro' h4 tk4 hS' hDs' nd1 ap1 F5 N5
   clear N4 F9
   k_steps
   refine lexer_made X T (by assumption) (by assumption) ?_
   intro lx' dx' pb' npB k1 k2 k3 k4 t t3 h5 tk5 F6 N6 ap2 nd2
   clear N5 F5
   k_steps
   refine call_all X T (by assumption) (by assumption) C1 hS' (by k_mem) (by k_mem) (by k_mem) (by k_mem) (by k_mem) (by k_mem) (by k_mem) (by k_mem) (by k_mem) ?_ (hsg _ hDs') .nil (Nat.zero_le _) ?_ htold
     [(row, listOf vals.toArray n), (cl', oc'), (st', fo'), (sd', sdo'), (rd', ro'), (c2, oc2), (lx', instObj 52 dx'), (81, tabObj #[rawInt 89, rawInt 13, .ref c1, rawInt 90, rawInt 18, .ref c2]), (58, tabObj #[]), (114, tabObj #[])] ?_ ?_
   · refine nodup8 nd1 nd2 fun x hx => ?_
     revert x
     refine all_cons ?_ (all_cons ?_ (all_cons ?_ (all_cons ?_ (all_cons ?_ all_nil))))
     · exact ap2 (_, oc') (by k_mem)
     · exact ap2 (_, listOf itsB.toArray nB) (by k_mem)
     · exact ap2 (_, fo') (by k_mem)
     · exact ap2 (_, sdo') (by k_mem)
     · exact ap2 (_, ro') (by k_mem)
   · have q2 := D.length
     rw [List.length_map] at q2
     omega
   · intro q hq
     simp only [List.mem_cons, List.not_mem_nil, or_false] at hq
     have z := fun q hq => (ap2 q hq).2
     have nd1' := nd1
     simp only [List.nodup_cons, List.mem_cons, List.not_mem_nil, or_false, not_or, List.nodup_nil, and_true, not_false_eq_true] at nd1' nd2
     rcases hq with rfl | rfl | rfl | rfl | rfl | rfl | rfl | rfl | rfl | rfl
     · exact ⟨by k_mem, not3 (notin_of ap1 (.head _) (by simp)) (z (row, _) (by k_mem)).1 (z (row, _) (by k_mem)).2⟩
     · exact ⟨by k_mem, not3 nd1'.1.1 (z (cl', oc') (by k_mem)).1 (z (cl', oc') (by k_mem)).2⟩
     · exact ⟨by k_mem, not3 (Ne.symm nd1'.2.1.1) (z (st', fo') (by k_mem)).1 (z (st', fo') (by k_mem)).2⟩
     · exact ⟨by k_mem, not3 (Ne.symm nd1'.2.1.2.1) (z (sd', sdo') (by k_mem)).1 (z (sd', sdo') (by k_mem)).2⟩
     · exact ⟨by k_mem, not3 (Ne.symm nd1'.2.1.2.2) (z (rd', ro') (by k_mem)).1 (z (rd', ro') (by k_mem)).2⟩
     · exact ⟨by k_mem, not3 (notin_of ap1 (.tail _ (.head _)) (by simp)) (z (c2, oc2) (by k_mem)).1 (z (c2, oc2) (by k_mem)).2⟩
     · exact ⟨by k_mem, not3 (Ne.symm (ap2 (sg', _) (by k_mem)).1) nd2.1.1 nd2.1.2⟩
     · exact ⟨by k_mem, not3 (notin_of ap1 (.tail _ (.tail _ (.head _))) (by simp)) (z (81, _) (by k_mem)).1 (z (81, _) (by k_mem)).2⟩
     · exact ⟨by k_mem, not3 (notin_of ap1 (.tail _ (.tail _ (.tail _ (.head _)))) (by simp)) (z (58, _) (by k_mem)).1 (z (58, _) (by k_mem)).2⟩
     · exact ⟨by k_mem, not3 (notin_of ap1 (.tail _ (.tail _ (.tail _ (.tail _ (.head _))))) (by simp)) (z (114, _) (by k_mem)).1 (z (114, _) (by k_mem)).2⟩
   intro ra rv nr its2 n3 np2 ln2 k1' k2' k3' k4' t' t3' h6 tk6 hDr hS2 hln2 ap3 F7 N7
   have hl2 : ln2 = 2 + (l.length : Int) := by
     have e0 : nls ([] : List Str) = 0 := rfl
     rw [e0] at hln2
     omega
   iterate 2 walk1
   rename Fr _ _ _ _ => Fe
   rename News _ _ _ _ => Nz
   have N9 := news_sub (news' := [(ra, listOf rv.toArray nr), (sg', listOf its2.toArray n3), (dx', dictOf (lexDict w k1' k2' k3' k4' t' t3' ln2 st' pb') 4), (pb', listOf #[] np2), (row, listOf vals.toArray n), (cl', oc'), (st', fo'), (sd', sdo'), (rd', ro'), (c2, oc2), (lx', instObj 52 dx'), (81, tabObj #[rawInt 89, rawInt 13, .ref c1, rawInt 90, rawInt 18, .ref c2]), (58, tabObj #[]), (114, tabObj #[])]) Nz (by
     refine all_cons ?_ (all_cons ?_ (all_cons ?_ (all_cons ?_ (all_cons ?_ (all_cons ?_ (all_cons ?_ (all_cons ?_ (all_cons ?_ (all_cons ?_ (all_cons ?_ (all_cons ?_ (all_cons ?_ (all_cons ?_ all_nil))))))))))))) <;> k_mem)
   have q81 := ap1 (81, _) (by k_mem)
   have q58 := ap1 (58, _) (by k_mem)
   have q114 := ap1 (114, _) (by k_mem)
   have qr := ap1 (row, _) (by k_mem)
   have qc := ap1 (c2, _) (by k_mem)
   simp only [List.mem_cons, List.not_mem_nil, or_false, not_or] at q81 q58 q114 qr qc
   have z81 := ap2 (81, _) (by k_mem)
   have z58 := ap2 (58, _) (by k_mem)
   have z114 := ap2 (114, _) (by k_mem)
   have zr := ap2 (row, _) (by k_mem)
   have zc := ap2 (c2, _) (by k_mem)
   have y81 := ap3 (81, _) (by k_mem)
   have y58 := ap3 (58, _) (by k_mem)
   have y114 := ap3 (114, _) (by k_mem)
   have ysg := ap3 (sg', _) (by k_mem)
   have ydx := ap3 (dx', _) (by k_mem)
   have ypb := ap3 (pb', _) (by k_mem)
   refine tail3 (ra := ra) X T (t3_of Fe rfl rfl rfl rfl) N9 C1 C2 C3 hlow hl h10 h01 D hDr hS2 hl2 hS' ?_ ?_ ?_ ?_ _ _ _ _ _ _ _ _ _ _ _ _ _ _ _ _ _ _ _ _ _ _ (by k_is)
   · refine nodup8 nd1 nd2 fun x hx => ?_
     revert x
     refine all_cons ?_ (all_cons ?_ (all_cons ?_ (all_cons ?_ (all_cons ?_ all_nil))))
     · exact ap2 (_, oc') (by k_mem)
     · exact ap2 (_, listOf itsB.toArray nB) (by k_mem)
     · exact ap2 (_, fo') (by k_mem)
     · exact ap2 (_, sdo') (by k_mem)
     · exact ap2 (_, ro') (by k_mem)
   · intro y hy
     revert y
     refine all_cons ?_ (all_cons ?_ (all_cons ?_ (all_cons ?_ (all_cons ?_ (all_cons ?_ (all_cons ?_ (all_cons ?_ (all_cons ?_ (all_cons ?_ (all_cons ?_ all_nil))))))))))
     · exact ⟨Ne.symm y81, Ne.symm y58, Ne.symm y114⟩
     · exact ⟨Ne.symm q81.2.1, Ne.symm q58.2.1, Ne.symm q114.2.1⟩
     · exact ⟨Ne.symm z81.2.1, Ne.symm z58.2.1, Ne.symm z114.2.1⟩
     · exact ⟨Ne.symm z81.2.2, Ne.symm z58.2.2, Ne.symm z114.2.2⟩
     · exact ⟨nr81, nr58, nr114⟩
     · exact ⟨Ne.symm q81.1, Ne.symm q58.1, Ne.symm q114.1⟩
     · exact ⟨Ne.symm q81.2.2.1, Ne.symm q58.2.2.1, Ne.symm q114.2.2.1⟩
     · exact ⟨Ne.symm q81.2.2.2.1, Ne.symm q58.2.2.2.1, Ne.symm q114.2.2.2.1⟩
     · exact ⟨Ne.symm q81.2.2.2.2, Ne.symm q58.2.2.2.2, Ne.symm q114.2.2.2.2⟩
     · exact ⟨c81, c58, c114⟩
     · exact ⟨Ne.symm z81.1, Ne.symm z58.1, Ne.symm z114.1⟩
   · intro y hy
     revert y
     refine all_cons ?_ (all_cons ?_ (all_cons ?_ all_nil))
     · exact not3 (Ne.symm ysg) (Ne.symm ydx) (Ne.symm ypb)
     · exact not3 qr.2.1 zr.2.1 zr.2.2
     · exact not3 qc.2.1 zc.2.1 zc.2.2
   · exact hQ
end Mine
end
section
open PySem PySem.W PyProof.Rows PySem.Calls
set_option maxRecDepth 100000
set_option maxHeartbeats 4000000
namespace Mine
theorem fillBBody10 : (fun (_ : OpenLaw) (_ : Params → Frag) => True) PySem.Challenge.rw_ik0002_02 hd2.heap_39 := by
  k_fill
  trivial
theorem rows22 : True := by
  k_with_none
  k_with "exec For" => ((k_here; with_reducible refine wpAny_For ?_ (fun _ => rfl)))
  k_with "binaryOp Add ref ref" => ((k_here; (with_reducible show wpAny _ _ (binaryOp _ (Value.ref _) (Value.ref _)) _ _ _); k_dflt (refine' addL ?Fz9 ?Nz9 ?az9 ?bz9 ?_ ?zz9; (case Fz9 => k_asm); (case Nz9 => k_asm); (case az9 => exact News.isList (by k_asm) (.tail _ (by k_mem))); (case bz9 => exact News.isList (by k_asm) (.head _)); (case zz9 => (simp only [List.length_cons, List.length_nil]; have := ‹_ ≤ 1000›; omega))); intro _ _ _ _ l1z9; (try k_lt l1z9); (try k_sweep)))
  trivial
noncomputable def Hold9 (P : Prop) : Prop := P
theorem hold9 {P : Prop} (h : Hold9 P) : P := h
theorem held9 {P : Prop} (h : P) : Hold9 P := h
theorem rows23 : True := by
  k_with "subscriptTail" => ((k_here; (with_reducible show wpAny _ _ (subscriptTail _ _ (Value.ref _) (Value.int (Int.fmod _ 3) _)) _ _ _); refine hold9 ?_))
  k_with "eval IfExp" => ((k_here; refine hold9 ?_))
  trivial
section
variable {w : World} {A : Around} {E Q : Value → Shared → Prop} {s : Shared} {value slice : PySem.Expr} {l : Addr} {x : Int} {u : Tok}
theorem item3d {ta tb tc : Tok} (hl : s.heap.IsList l #[.str (Str.ofString "add") ta, .str (Str.ofString "sub") tb, .str (Str.ofString "mul") tc]) (h : ∀ t, Q (.str (deedS (turnOf x).2.1) t) s)
    (hs : subscripted slice false (.ref l) (.int (x.fmod 3) u) = operate [.ref l, .int (x.fmod 3) u] (getItem (.ref l) (.int (x.fmod 3) u)) := by with_unfolding_all rfl) :
    wpAny (model PySem.Challenge.pw_ik0002_02 w) A (subscriptTail value slice (.ref l) (.int (x.fmod 3) u)) Q E s := by
  obtain e | e | e : x.fmod 3 = 0 ∨ x.fmod 3 = 1 ∨ x.fmod 3 = 2 := by rw [fm3]; omega
  · have d := deed_o (o := 0) e
    rw [d] at h
    rw [e] at hs ⊢
    exact item_litK (vs := [_, _, _]) hl (by decide) (by decide) rfl (h ta) hs
  · have d := deed_o (o := 1) e
    rw [d] at h
    rw [e] at hs ⊢
    exact item_litK (vs := [_, _, _]) hl (by decide) (by decide) rfl (h tb) hs
  · have d := deed_o (o := 2) e
    rw [d] at h
    rw [e] at hs ⊢
    exact item_litK (vs := [_, _, _]) hl (by decide) (by decide) rfl (h tc) hs
theorem item3i {ta tb tc : Tok} {a b : Int} (hl : s.heap.IsList l #[.int (a + b) ta, .int (a - b) tb, .int (a * b) tc]) (h : ∀ t, Q (.int (opf (deedS (turnOf x).2.1) a b) t) s)
    (hs : subscripted slice false (.ref l) (.int (x.fmod 3) u) = operate [.ref l, .int (x.fmod 3) u] (getItem (.ref l) (.int (x.fmod 3) u)) := by with_unfolding_all rfl) :
    wpAny (model PySem.Challenge.pw_ik0002_02 w) A (subscriptTail value slice (.ref l) (.int (x.fmod 3) u)) Q E s := by
  obtain e | e | e : x.fmod 3 = 0 ∨ x.fmod 3 = 1 ∨ x.fmod 3 = 2 := by rw [fm3]; omega
  · have d := deed_o (o := 0) e
    rw [d] at h
    rw [e] at hs ⊢
    exact item_litK (vs := [_, _, _]) hl (by decide) (by decide) rfl (h ta) hs
  · have d := deed_o (o := 1) e
    rw [d] at h
    rw [e] at hs ⊢
    exact item_litK (vs := [_, _, _]) hl (by decide) (by decide) rfl (h tb) hs
  · have d := deed_o (o := 2) e
    rw [d] at h
    rw [e] at hs ⊢
    exact item_litK (vs := [_, _, _]) hl (by decide) (by decide) rfl (h tc) hs
noncomputable def IsInt (n : Nat) (s : Shared) (v : Value) (s' : Shared) : Prop := (∃ tk, s' = { s with toks := tk }) ∧ ∃ t, v = .int (n : Int) t
theorem if_join {M : Model} {e : PySem.Expr} {env : Env} {n : Nat} (h1 : wpAny M A (eval e env) (IsInt n s) E s) (h2 : ∀ tk t, Q (.int (n : Int) t) { s with toks := tk }) : wpAny M A (eval e env) Q E s :=
  wpAny_mono h1 (fun v s' q => by obtain ⟨⟨tk, rfl⟩, t, rfl⟩ := q; exact h2 tk t) fun _ _ q => q
end
theorem way_lt (x : Int) : (turnOf x).2.2 < 3 := by
  show (if x / 30 % 2 = 1 then 2 else (x % 2).toNat) < 3
  split <;> omega
theorem deed_len (x : Int) : (deedS (turnOf x).2.1).length ≤ 640 := by
  have : ∀ o < 3, (deedS o).length ≤ 640 := by decide +kernel
  exact this _ (turnOf_ok [x] _ (.head _)).2
theorem body2 {w : World} {g : Heap} {L sc : Addr} {s : Shared} {p : Program} {loose : List Str} {mg mb : Str → Option Value} {mean : ExcName → Option Value}
   {E : Value → Shared → Prop} {Q : Flow → Shared → Prop} {ws : List Value} {ns : List Int}
   (X : (hd2.heap_39 w.params).In g) (T : Top p loose mean mg mb g)
   (F : Fr g L s.heap (fun y => List.lookup y [(Str.ofString "script", .ref sc)]))
   (N : News g L s.heap [(81, tabObj #[]), (58, tabObj #[]), (114, tabObj #[])])
   (C1 : CodeHd g 83 81) (C2 : CodeHd g 62 58) (C3 : CodeHd g 118 114) (hlow : 119 < g.objs.size)
   (hsc : g.IsList sc ws.toArray) (hI : IntsAre ws ns) (h63 : ns.length ≤ 63)
   (hQ : ∀ h' tk', (∃ m, Fr g L h' m) → (∃ p1 p2 p3, News g L h' [(81, tabObj p1), (58, tabObj p2), (114, tabObj p3)]) → Q (.ret (.bool true)) { s with heap := h', toks := tk' }) :
   ∀ body scope f osl nm qual params dV kV doc pm an ct oc od cd, (hd2.heap_39 w.params).lookup 119 = some ⟨oc, od, .func (fnOf nm qual params body scope dV kV doc pm an cd ct), osl⟩ →
   wpAny (model PySem.Challenge.pw_ik0002_02 w) (callerA.deeper (envOf qual scope L f cd)) (execs body (envOf qual scope L f cd)) Q E s := by
   intro body scope f osl nm qual params dV kV doc pm an ct oc od cd ho
   refine' (fun (q : _ = _) => ?_) (Eq.trans (Eq.symm ho) ?h)
   case h => k_is
   cases q
   clear ho
   k_steps
   rename News _ _ _ _ => N9
   rename Fr _ _ _ _ => F9
   rename IntsAre _ (_ ++ _) => hI9
   have m0 := N9 _ (.head _)
   refine wpAny_pyIter_list (News.isList N9 (.head _)) ?_
   rename_i D els _ _
   have F10 := Fr.push F9 (itObj D 0)
   have N10 := News.push F9 N9 (itObj D 0) rfl
   refine forLoopA (LpInv g L D _ _ (List.take 6 ns ++ [24, 7, 41, 12]) s) ?turn _ (lpInit F10 N10 rfl rfl rfl (.head _) (by k_mem) (by k_mem) (by k_mem) (by k_mem) (by k_mem) (.cons (.str _ _) .nil) rfl) (fun _ => rfl)
   clear F9 N9 F10 N10 m0
   rintro c s1 ⟨i, row, vals, n, nD, text, tt, total, tot, m, oi, ic, id, hc, hk, ⟨F5, N5⟩, hD, hT, hX, hs1⟩ Nx R' hNx hR'
   have m0 := N5 _ (.head _)
   have m1 := N5 _ (.tail _ (.head _))
   have m2 := N5 _ (.tail _ (.tail _ (.head _)))
   have m3 := N5 _ (.tail _ (.tail _ (.tail _ (.head _))))
   have m4 := N5 _ (.tail _ (.tail _ (.tail _ (.tail _ (.head _)))))
   have m5 := N5 _ (.tail _ (.tail _ (.tail _ (.tail _ (.tail _ (.head _))))))
   have hit := fun b o e ho => notIt (b := b) (o := o) m1.1 ic e ho
   have htr := isIt2 m1.1 ic id
   by_cases hlt' : i < els.length
   · obtain ⟨x, tx, hx, hnx⟩ := ints_get hI9 hlt'
     refine wpAny_pyNext_list_item (x := .int x tx) htr (News.isList N5 (.tail _ (.tail _ (.head _)))) (by rw [List.getElem?_toArray]; exact hx) (fun h' hi hsb => ?_)
     obtain ⟨oi2, e2, ic2, id2⟩ := hi
     obtain ⟨F6, N6⟩ := after (S := [_]) (news' := [(row, listOf vals.toArray n), (_, oi2), (D, listOf els.toArray nD), (81, tabObj #[]), (58, tabObj #[]), (114, tabObj #[])]) F5 N5 (fun b o e hb => hsb.extBut b o (by simpa using hb) e) (fun b hb => by rw [List.mem_singleton.mp hb]; exact m1.2) (by
      refine all_cons ?_ (all_cons ?_ (all_cons ?_ (all_cons ?_ (all_cons ?_ (all_cons ?_ all_nil)))))
      · exact .inl ⟨.head _, by rw [List.mem_singleton]; exact hit _ _ m0.1 rfl⟩
      · exact .inr ⟨e2, m1.2⟩
      · exact .inl ⟨.tail _ (.tail _ (.head _)), by rw [List.mem_singleton]; exact hit _ _ m2.1 rfl⟩
      · exact .inl ⟨.tail _ (.tail _ (.tail _ (.head _))), by rw [List.mem_singleton]; exact hit _ _ m3.1 rfl⟩
      · exact .inl ⟨.tail _ (.tail _ (.tail _ (.tail _ (.head _)))), by rw [List.mem_singleton]; exact hit _ _ m4.1 rfl⟩
      · exact .inl ⟨.tail _ (.tail _ (.tail _ (.tail _ (.tail _ (.head _))))), by rw [List.mem_singleton]; exact hit _ _ m5.1 rfl⟩)
     have hvl : vals.length ≤ 1000 := by
      have q1 := hD.length
      rw [List.length_map] at q1
      have q2 : (row0 (((List.take 6 ns ++ [24, 7, 41, 12]).take i).map turnOf)).length = (rowT (((List.take 6 ns ++ [24, 7, 41, 12]).take i).map turnOf)).length + 1 := rfl
      rw [rowT_len, List.length_map, List.length_take, List.length_append, List.length_take] at q2
      simp only [List.length_cons, List.length_nil] at q2
      omega
     have hz' : text.length ≤ 1000 := by
      have q1 : text.length = text.cps.toList.length := rfl
      rw [hT] at q1
      have q2 := text0_len (turnOf_ok ((List.take 6 ns ++ [24, 7, 41, 12]).take i))
      rw [List.map_take] at q2
      have q3 : (List.take i (List.map turnOf (List.take 6 ns ++ [24, 7, 41, 12]))).length ≤ 10 := by
       rw [List.length_take, List.length_map, List.length_append, List.length_take]
       simp only [List.length_cons, List.length_nil]
       omega
      rw [← List.map_take] at q3 q2
      omega
     have hmo := fun a => fig_ok x a
     clear htr m1 hit m0 m2 m3 m4 m5 F5 N5
     k_steps
     refine held9 (item3d (x := x) (News.isList (by k_asm) (by k_mem)) (fun td => ?_))
     k_steps
     refine held9 (if_join (n := (turnOf x).2.2) ?_ (fun tkw tw => ?_))
     · refine IfExp_ ?_
       k_steps
       · exact ⟨⟨_, rfl⟩, _, congrArg (fun z => Value.int z _) (by rw [way_2 (by assumption)]; rfl)⟩
       · exact ⟨⟨_, rfl⟩, _, congrArg (fun z => Value.int z _) (by rw [way_1 (by assumption), fm2]; omega)⟩
     k_steps
     refine call_wrz X T (by assumption) (by assumption) (turnOf x).2.2 (figS (turnOf x).1) (fig_is x) rfl (figS_in _ (turnOf_ok [x] _ (.head _)).1).2.2 (way_lt x) ?_
     intro h2 tk2 t2 F7 N7 wl2
     k_steps
     refine call_wrz X T (by assumption) (by assumption) (turnOf x).2.2 _ rfl rfl (deed_len x) (way_lt x) ?_
     intro h3 tk3 t3 F8 N8 wl3
     k_steps
     refine held9 (item3i (x := x) (News.isList (by k_asm) (by k_mem)) (fun ti => ?_))
     k_steps
     refine hNx _ (lpNext (turnOf x).2.1 (turnOf x).2.2 rfl rfl hlt' hc hnx (by k_asm) (by k_asm) rfl rfl rfl (by k_mem) (by k_mem) (by k_mem) (by k_mem) (by k_mem) (by k_mem) ic2 id2 rfl (fig_is x) rfl hD hT hX rfl rfl (by rw [hs1]))
   · have hx : els[i]? = none := List.getElem?_eq_none (by omega)
     have hie : i = els.length := by omega
     refine wpAny_pyNext_list_end rfl htr (News.isList N5 (.tail _ (.tail _ (.head _)))) (by rw [List.getElem?_toArray]; exact hx) (fun h' hsb => ?_)
     obtain ⟨F6, N6⟩ := after (S := [_]) (news' := [(row, listOf vals.toArray n), (81, tabObj #[]), (58, tabObj #[]), (114, tabObj #[])]) F5 N5 (fun b o e hb => hsb b o (by simpa using hb) e) (fun b hb => by rw [List.mem_singleton.mp hb]; exact m1.2) (by
      refine all_cons ?_ (all_cons ?_ (all_cons ?_ (all_cons ?_ all_nil)))
      · exact .inl ⟨.head _, by rw [List.mem_singleton]; exact hit _ _ m0.1 rfl⟩
      · exact .inl ⟨.tail _ (.tail _ (.tail _ (.head _))), by rw [List.mem_singleton]; exact hit _ _ m3.1 rfl⟩
      · exact .inl ⟨.tail _ (.tail _ (.tail _ (.tail _ (.head _)))), by rw [List.mem_singleton]; exact hit _ _ m4.1 rfl⟩
      · exact .inl ⟨.tail _ (.tail _ (.tail _ (.tail _ (.tail _ (.head _))))), by rw [List.mem_singleton]; exact hit _ _ m5.1 rfl⟩)
     clear htr m1 hit m0 m2 m3 m4 m5 F5 N5
     have hel := hI9.length
     rw [List.take_of_length_le (show (List.take 6 ns ++ [24, 7, 41, 12]).length ≤ i by omega)] at hD hT hX
     subst hX
     iterate 1 walk1
     refine hR' _ _ ?_
     show wpAny _ _ (execs _ _) Q E _
     have hlen : (List.take 6 ns ++ [24, 7, 41, 12]).length = min 6 ns.length + 4 := by
       rw [List.length_append, List.length_take]; rfl
     refine tail2 (s := { heap := h', gens := s1.gens, drawn := s1.drawn, toks := s1.toks, os := s1.os }) X T F6 N6 C1 C2 C3 hlow (turnOf_ok _) ?_ ?_ hD hT ?_ _ _ _ _ _ _ _ _ _ _ _ _ _ _ _ _ _ _ (by k_is)
     · rw [List.length_map]; omega
     · rw [List.length_map]; omega
     · rw [hs1]; exact hQ
end Mine
end
section
open PySem PySem.W PyProof.Rows PySem.Calls
set_option maxRecDepth 100000
set_option maxHeartbeats 4000000
namespace Mine
theorem rows24 : True := by
  k_with_none
  trivial
theorem fillLLaw2b : (fun (_ : OpenLaw) (_ : Params → Frag) => True) PySem.Challenge.rw_ik0002_02 hd2.heap_39 := by
  k_fill
  trivial
theorem law2 : PySem.Challenge.rw_ik0002_02.Holds := by
  refine hd2 ?_
  k_fill
  intro w s₀ s₁ mg mb G Y fa o pm cd doc dV kV ho hd hcd hD hmg hg args vals as hpre hlay hrd hwl hlo
  have KX := km_in_of Y
  km_tabs Y
  have X := (Ground.X G).1
  have V := (Ground.X G).2
  refine Ground.open G ?_
  intro T B D TE TW
  try (refine guard_noD D (by decide +kernel) ?_; clear D)
  km_lay T hmg ho hd cd
  clear hmg
  wrow_args hpre hlay hrd hwl hlo
  first | refine callC_kw (enter_call ?_) | refine enter_call ?_
  w_top on
  kn_posts
  w_call any ho hd hcd hD T F
  clear hd
  kn_ghosts F T
  k_drop
  rename Frag.In _ _ => X0
  rename Top _ _ _ _ _ _ => T0
  rename Fr _ _ _ _ => F0
  rename News _ _ _ _ => N0
  rename IntsAre _ _ => I0
  rename Heap.IsList _ _ _ => L0
  rename CodeHd _ _ _ => D3
  rename CodeHd _ _ _ => D2
  rename CodeHd _ _ _ => D1
  have hlow := Heap.lt_size (X0 119 _ rfl)
  refine body2 X0 T0 F0 N0 ?_ ?_ ?_ hlow ?_ I0 ?_ ?_ _ _ _ _ _ _ _ _ _ _ _ _ _ _ _ _ (by k_is)
  all_goals (try assumption)
  all_goals (try omega)
  rintro h' tk' ⟨m9, F9⟩ ⟨p1, p2, p3, N9⟩
  clear F0 N0
  k_steps
end Mine
end
theorem PySem.Challenge.cw_ik0002_02_holds : PySem.Challenge.rw_ik0002_02.Holds :=
  Mine.law2
