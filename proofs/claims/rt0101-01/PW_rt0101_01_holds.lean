import PyProof.Rows.All
import Wide.All
import OpenK.AllK
import Wide.FinOn
import Lean
import PySem.Challenge.RW_rt0101_01
open PySem PySem.W PyProof.Rows
set_option Elab.async false
set_option maxRecDepth 100000
set_option compiler.extract_closed false

namespace Mine
section
def rowW : RowW := OpenRow.toRowW PySem.Challenge.rw_rt0101_01.row
def pick (is : List Nat) (b : List Stmt) : List Stmt := is.filterMap fun i => b[i]?
def viewQ : Program := { (RowW.prog rowW) with main := { (RowW.prog rowW).main with body := pick [0, 2, 3, 4, 5, 6, 7, 9, 10, 11, 12, 13, 15, 17, 19, 20, 22, 24, 26, 27, 28, 30, 31, 32, 33, 34] (RowW.prog rowW).main.body } }
local macro_rules | `(tactic| o_head $H) => `(tactic| (refine holds_open (q := viewQ) (loose := [PySem.Str.ofString "_NodeInfo"]) (Xt := fun s => xlAt viewQ [] s && recOk (RowW.records rowW) s) (XP := XL viewQ []) (Yf := Hook.obs $H) (Ya := Hook.val $H) (YP := Hook.says $H) (N := 4514) ?hl (Hook.of $H) (Hook.keeps $H) (fun s e => xl_of s (Bool.and_eq_true_iff.mp e).1) XL.keeps (by rfl) (by rfl) (by rfl) (fun s e => recFacts_of (Bool.and_eq_true_iff.mp e).2) (by first | rfl | fail "writes") (by first | assumption | decide +kernel) (by decide +kernel) ⟨rfl, rfl, rfl, rfl, rfl, by decide +kernel⟩ ?hw ?hc; (case hl => exact fun w => by kernel_rfl)))
set_option maxRecDepth 100000 in
theorem said_law : PySem.Challenge.rw_rt0101_01.wellSaid = true := by
  delta OpenLaw.wellSaid
  (try dsimp only)
  repeat' (with_reducible refine look_both ?_ ?_)
  all_goals (try (delta OpenRow.wellSaid; (try dsimp only); (repeat' (with_reducible refine look_both ?_ ?_))))
  all_goals (try (delta OpenRow.partSaid; (try dsimp only); (repeat' (with_reducible refine look_both ?_ ?_))))
  all_goals (try (delta looksOpen; (try dsimp only); (repeat' (with_reducible refine look_both ?_ ?_))))
  all_goals decide +kernel
local macro_rules | `(tactic| o_law) => `(tactic| refine holds_law said_law fun said => ?_)
set_option maxRecDepth 100000 in
set_option maxHeartbeats 8000000 in
open_top hd for PySem.Challenge.rw_rt0101_01
end
end Mine

namespace Mine
section
open PySem PySem.W PyProof.Rows PySem.Calls
/-- room around a call: nothing is being handled, frames and units are few -/
structure Rm (A : Around) (k : Nat) : Prop where
  hh : A.handled = none
  hd : A.depth + k < 1000
  hu : A.units + 16 * k < 9900
theorem Rm.less {A : Around} {k j : Nat} (r : Rm A k) (h : j ≤ k) : Rm A j := ⟨r.hh, by have := r.hd; omega, by have := r.hu; omega⟩
theorem Rm.deeper {A : Around} {k : Nat} {env : Env} (r : Rm A (k + 1)) : Rm (A.deeper env) k := ⟨r.hh, by have := r.hd; show A.depth + 1 + k < 1000; omega, by have := r.hu; show A.units + 3 + 16 * k < 9900; omega⟩
theorem Rm.in1 {A : Around} {k : Nat} (r : Rm A (k + 1)) : Rm A.in1 k := ⟨r.hh, by have := r.hd; show A.depth + k < 1000; omega, by have := r.hu; show A.units + 1 + 16 * k < 9900; omega⟩
theorem Rm.room {A : Around} {k : Nat} (r : Rm A k) : A.depth < recursionLimit := by have := r.hd; show A.depth < 1000; omega

/-- the ground: what the top has laid and no call turns -/
structure Gnd (w : World) (p : Program) (loose : List Str) (mean : ExcName → Option Value) (mg mb : Str → Option Value) (H0 : Heap) : Prop where
  X : (Mine.hd.heap_1 w.params).In H0
  T : Top p loose mean mg mb H0
  C1 : CodeHd H0 48 44
  C2 : CodeHd H0 41 37
  n1 : H0.get? 44 = none
  n2 : H0.get? 37 = none
theorem Gnd.keeps {w : World} {p : Program} {loose : List Str} {mean : ExcName → Option Value} {mg mb : Str → Option Value} {H0 g : Heap} (G : Gnd w p loose mean mg mb H0) (k : H0.StaysIn g) :
    (Mine.hd.heap_1 w.params).In g ∧ Top p loose mean mg mb g ∧ CodeHd g 48 44 ∧ CodeHd g 41 37 := ⟨G.X.keeps k, G.T.keeps k, G.C1.keeps k, G.C2.keeps k⟩

theorem stays_hide {H0 h : Heap} {as : List Addr} (k : H0.StaysIn h) (hn : ∀ a ∈ as, H0.get? a = none) : H0.StaysIn (hideAll h as) := fun b o e => hideAll_get _ (k b o e) fun hm => by
  rw [hn b hm] at e; cases e
theorem fr_hide {h h₁ : Heap} {L : Addr} {m : Str → Option Value} {as : List Addr} (F : Fr h L h₁ m) : Fr (hideAll h as) L h₁ m :=
  ⟨F.ns, fun b o e => F.keep b o (of_hideAll _ e), Nat.le_trans (Nat.le_of_eq (hideAll_size _ _)) F.above⟩
theorem news_hide {h h₁ : Heap} {L : Addr} {m : Str → Option Value} {M cells : List (Addr × Obj)} (F : Fr h L h₁ m) (N : News h L h₁ cells) (hM : ∀ p ∈ M, h.get? p.1 = some p.2) :
    News (hideAll h (M.map (·.1))) L h₁ (cells ++ M) := fun p hp => by
  rcases List.mem_append.mp hp with hp | hp
  · refine ⟨(N p hp).1, (N p hp).2.1, ?_⟩
    cases q : (hideAll h (M.map (·.1))).get? p.1 with
    | none => rfl
    | some o => have := of_hideAll _ q; rw [(N p hp).2.2] at this; cases this
  · exact ⟨F.keep _ _ (hM p hp), Nat.ne_of_lt (Nat.lt_of_lt_of_le (Heap.lt_size (hM p hp)) F.above), hideAll_none _ (List.mem_map_of_mem hp)⟩
/-- what a ghost keeps, the heap keeps, but for the hidden -/
theorem stays_of_hide {h h' : Heap} {as : List Addr} (k : (hideAll h as).StaysIn h') {b : Addr} {o : Obj} (hb : b ∉ as) (e : h.get? b = some o) : h'.get? b = some o := k b o (hideAll_get _ e hb)

section
variable {prog : Program} {w : World} {A : Around} {s : Shared} {R : Result → Shared → Prop} {name qual : Str} {params : Arguments} {body : List Stmt} {scope : Scope} {cl : List (Str × Addr)}
    {dV kV doc pm cdv ct oc : Value} {an od : Option Addr} {osl : Array (Option Value)} {f : Addr} {args : Args} {binds : List (Str × Value)} {p : Program} {loose : List Str} {mean : ExcName → Option Value} {mg mb : Str → Option Value} {H0 : Heap}
    {M : List (Addr × Obj)} {cd : Value} {vals : List Value}

theorem enter_fn {fo : Obj} (lim : s.heap.NoLimit) (k : H0.StaysIn s.heap)
    (ho : s.heap.get? f = some fo) (hfo : fo.data = .func (fnX name qual params body scope cl dV kV doc pm an cdv ct)) (hcd : s.heap.CodeRec cdv qual) (hroom : A.depth < recursionLimit)
    (hM : ∀ p ∈ M, s.heap.get? p.1 = some p.2) (hn : ∀ p ∈ M, H0.get? p.1 = none)
    (hbind : BindsTo s (fnX name qual params body scope cl dV kV doc pm an cdv ct) args binds) (hloc : ∀ y ∈ binds, scope.names.lookup y.1 = some .local)
    (h : ∀ L h₁ g, L = s.heap.objs.size → g = hideAll s.heap (M.map (·.1)) → H0.StaysIn g → Fr g L h₁ (fun y => binds.reverse.lookup y) → News g L h₁ M →
      wpAny (model prog w) (A.deeper (envX qual scope L f cdv cl)) (execs body (envX qual scope L f cdv cl))
        (fun fl s' => R (.ok (.ret (match fl with | .ret v => v | _ => .none))) s') (fun _ _ => False)
        { s with heap := h₁, toks := s.toks + binds.length })
    (hcell : ∀ x ∈ scope.names, x.2 ≠ .cell) (hco : scope.isCoroutine = false := by rfl) (hgen : scope.isGenerator = false := by rfl) (hk : scope.kind = .function := by rfl) :
    codeAny (model prog w) A (.call (.ref f) args) R s := by
  refine codeAny_call_def (fd := fnX name qual params body scope cl dV kV doc pm an cdv ct) (body := body) (binds := binds) hroom ho hfo lim hcd rfl hbind hcell hloc (fun h₁ hns hk₁ => ?_) hco hgen hk
  have F : Fr s.heap s.heap.objs.size h₁ _ := ⟨hns, hk₁, Nat.le_refl _⟩
  have N := news_hide (M := M) F (News.nil (h₀ := s.heap)) hM
  refine wpAny_mono (h _ h₁ _ rfl rfl (stays_hide k fun a ha => ?_) (fr_hide F) N) (fun _ _ y => y) (fun _ _ y => y.elim)
  obtain ⟨q, hq, rfl⟩ := List.mem_map.mp ha
  exact hn q hq

theorem enter_plain (G : Gnd w p loose mean mg mb H0) (k : H0.StaysIn s.heap)
    (ho : (Mine.hd.heap_1 w.params).lookup f = some ⟨oc, od, .func (fnX name qual params body scope cl dV kV doc pm an cdv ct), osl⟩) (hcd : codeIn (Mine.hd.heap_1 w.params) cdv qual = true) (hroom : A.depth < recursionLimit)
    (hM : ∀ p ∈ M, s.heap.get? p.1 = some p.2) (hn : ∀ p ∈ M, H0.get? p.1 = none)
    (hbind : BindsTo s (fnX name qual params body scope cl dV kV doc pm an cdv ct) args binds) (hloc : ∀ y ∈ binds, scope.names.lookup y.1 = some .local)
    (h : ∀ L h₁ g, L = s.heap.objs.size → g = hideAll s.heap (M.map (·.1)) → H0.StaysIn g → Fr g L h₁ (fun y => binds.reverse.lookup y) → News g L h₁ M →
      wpAny (model prog w) (A.deeper (envX qual scope L f cdv cl)) (execs body (envX qual scope L f cdv cl))
        (fun fl s' => R (.ok (.ret (match fl with | .ret v => v | _ => .none))) s') (fun _ _ => False)
        { s with heap := h₁, toks := s.toks + binds.length })
    (hcell : ∀ x ∈ scope.names, x.2 ≠ .cell) (hco : scope.isCoroutine = false := by rfl) (hgen : scope.isGenerator = false := by rfl) (hk : scope.kind = .function := by rfl) :
    codeAny (model prog w) A (.call (.ref f) args) R s :=
  enter_fn (G.T.keeps k).nolimit k ((G.X.keeps k) _ _ ho) rfl (codeRec_of (G.X.keeps k) hcd) hroom hM hn hbind hloc h hcell hco hgen hk

theorem enter_cells (G : Gnd w p loose mean mg mb H0) (k : H0.StaysIn s.heap)
    (ho : (Mine.hd.heap_1 w.params).lookup f = some ⟨oc, od, .func (docDef name params body scope pm cd doc), osl⟩) (hcd : codeIn (Mine.hd.heap_1 w.params) cd name = true) (hroom : A.depth < recursionLimit)
    (hM : ∀ p ∈ M, s.heap.get? p.1 = some p.2) (hn : ∀ p ∈ M, H0.get? p.1 = none)
    (hbind : bindArgs (docDef name params body scope pm cd doc) ⟨vals, []⟩ = pure binds)
    (hkind : (binds.all fun y => scope.names.lookup y.1 == some .local || scope.names.lookup y.1 == some .cell) = true)
    (h : ∀ L h₁ g tk cells, L = s.heap.objs.size → g = hideAll s.heap (M.map (·.1)) → H0.StaysIn g → Fr g L h₁ (bindL (envOfC name scope L f cd).kindOf binds fun _ => none) → News g L h₁ (cells ++ M) →
      CellsAre (bindC (envOfC name scope L f cd).kindOf binds fun _ => none) (cellsFrom (L + 1) scope.names []) cells → (∀ p ∈ M, p.1 < L) →
      wpAny (model prog w) (A.deeper (envOfC name scope L f cd)) (execs body (envOfC name scope L f cd))
        (fun fl s' => R (.ok (.ret (match fl with | .ret v => v | _ => .none))) s') (fun _ _ => False)
        { s with heap := h₁, toks := tk })
    (hnd : ((cellsFrom 0 scope.names []).map (·.1)).Nodup)
    (hco : scope.isCoroutine = false := by rfl) (hgen : scope.isGenerator = false := by rfl) (hk : scope.kind = .function := by rfl) :
    codeAny (model prog w) A (.call (.ref f) ⟨vals, []⟩) R s := by
  refine call_cells_ret hroom ((G.X.keeps k) _ _ ho) rfl (G.T.keeps k).nolimit (codeRec_of (G.X.keeps k) hcd) hbind (kindsX hkind _) (fun h₁ tk F Y => ?_) hco hgen hk
  obtain ⟨cells, NC, YC⟩ := Cl.news (h₀ := s.heap) (Nat.le_refl _) fun n c hm => ⟨Y.cell n c (lookup_of_mem_nodup (cellsFrom_names scope.names 0 (s.heap.objs.size + 1) [] [] rfl ▸ hnd) hm), Y.above n c hm⟩
  refine wpAny_mono (h _ h₁ _ tk cells rfl rfl (stays_hide k fun a ha => ?_) (fr_hide F) (news_hide (M := M) F NC hM) YC fun q hq => Heap.lt_size (hM q hq)) (fun _ _ y => y) (fun _ _ y => y.elim)
  obtain ⟨q, hq, rfl⟩ := List.mem_map.mp ha
  exact hn q hq
end

/-- the walk stops here -/
def Stop (P : Prop) : Prop := P
theorem stop_it {P : Prop} (h : Stop P) : P := h

theorem after_upd {g h h' : Heap} {L l : Addr} {m : Str → Option Value} {o o' : Obj} {pre post : List (Addr × Obj)} (F : Fr g L h m) (N : News g L h (pre ++ (l, o) :: post)) (h1 : ∀ q ∈ pre, q.1 ≠ l) (h2 : ∀ q ∈ post, q.1 ≠ l)
    (k : ∀ b x, b ≠ l → h.get? b = some x → h'.get? b = some x) (hl : h'.get? l = some o') : Fr g L h' m ∧ News g L h' (pre ++ (l, o') :: post) := by
  have D := N (l, o) (by simp)
  obtain ⟨oL, es, ep, hL, r⟩ := F.ns
  refine ⟨⟨⟨oL, es, ep, k _ _ (Ne.symm D.2.1) hL, r⟩, fun b x q => k b x (fun e => ?_) (F.keep b x q), F.above⟩, fun q hq => ?_⟩
  · rw [e, D.2.2] at q; cases q
  · rcases List.mem_append.mp hq with hq | hq
    · have n := N q (List.mem_append_left _ hq); exact ⟨k _ _ (h1 q hq) n.1, n.2⟩
    · rcases List.mem_cons.mp hq with rfl | hq
      · exact ⟨hl, D.2⟩
      · have n := N q (List.mem_append_right _ (.tail _ hq)); exact ⟨k _ _ (h2 q hq) n.1, n.2⟩

/-- back from a call that turned the hidden object l alone -/
theorem kept_but {h0 h g : Heap} {L l : Addr} {m : Str → Option Value} {o : Obj} {rest : List (Addr × Obj)} (hg : g = hideAll h0 (((l, o) :: rest).map (·.1))) (hM : ∀ q ∈ rest, h0.get? q.1 = some q.2) (F : Fr g L h m) (hR : ∀ q ∈ rest, h.get? q.1 = some q.2) :
    ∀ b x, b ≠ l → h0.get? b = some x → h.get? b = some x := fun b x hb e => by
  by_cases hr : b ∈ rest.map (·.1)
  · obtain ⟨q, hq, rfl⟩ := List.mem_map.mp hr
    rw [hM q hq] at e; cases e
    exact hR q hq
  · subst hg
    exact stays_of_hide F.keep (by rw [List.map_cons, List.mem_cons]; exact fun q => q.elim hb hr) e

theorem kept_all {h0 h g : Heap} {L : Addr} {m : Str → Option Value} {M : List (Addr × Obj)} (hg : g = hideAll h0 (M.map (·.1))) (hM : ∀ q ∈ M, h0.get? q.1 = some q.2) (F : Fr g L h m) (hR : ∀ q ∈ M, h.get? q.1 = some q.2) :
    h0.StaysIn h := fun b x e => by
  by_cases hr : b ∈ M.map (·.1)
  · obtain ⟨q, hq, rfl⟩ := List.mem_map.mp hr
    rw [hM q hq] at e; cases e
    exact hR q hq
  · subst hg
    exact stays_of_hide F.keep hr e

/-- what a loop's turn is to show: the iterator as it was, the ledger's named part, the word -/
def EndK (h₀ : Heap) (L I : Addr) (o : Obj) (J : (Str → Option Value) → List (Addr × Obj) → Prop) (s₁ : Shared) (Q : Flow → Shared → Prop) (f : Flow) (s₂ : Shared) : Prop :=
  match f with
  | .ret v => Q (.ret v) s₂
  | .brk => Q .next s₂
  | _ => ∃ h' tk m' full news', s₂ = { s₁ with heap := h', toks := tk } ∧ Fr h₀ L h' m' ∧ News h₀ L h' full ∧ (I, o) ∈ full ∧ (∀ p ∈ news', p ∈ full) ∧ (∀ p ∈ news', p.1 ≠ I) ∧ J m' news'
theorem loopK {prog : Program} {w : World} {A : Around} {E : Value → Shared → Prop} {s : Shared} {env : Env} {h₀ : Heap} {x : Str} {body : List Stmt} {Q : Flow → Shared → Prop} {I : Addr} {fp : List Addr} {n : Nat} {P : Nat → Value → Prop} {St : Nat → Heap → Prop} {m₀ : Str → Option Value}
    {news cont : List (Addr × Obj)} (J : Nat → (Str → Option Value) → List (Addr × Obj) → Prop) (W : Walks prog w A I fp [I] n P St) (hIf : I ∈ fp) (hfp : ∀ b ∈ fp, b = I ∨ (∃ q, h₀.get? b = some q) ∨ b ∈ cont.map (·.1)) (hI0 : h₀.get? I = none)
    (hob : ∀ i h, St i h → ∃ o, h.get? I = some o) (hJc : ∀ i m ns, J i m ns → ∀ q ∈ cont, q ∈ ns) (hLf : env.locals ∉ fp) (hnw : ∀ p ∈ news, p.1 ≠ I) (hst : St 0 s.heap) (F : Fr h₀ env.locals s.heap m₀) (N : News h₀ env.locals s.heap news) (h0 : J 0 m₀ news)
    (turn : ∀ i v m₁ news₁ h tk o, i < n → P i v → J i m₁ news₁ → (∀ p ∈ news₁, p.1 ≠ I) → Fr h₀ env.locals h (fun y => if y = x then some v else m₁ y) → News h₀ env.locals h ((I, o) :: news₁) →
      wpAny (model prog w) A (execs body env) (EndK h₀ env.locals I o (J (i + 1)) { s with heap := h, toks := tk } Q) E { s with heap := h, toks := tk })
    (done : ∀ m' news' h' tk, J n m' news' → Fr h₀ env.locals h' m' → News h₀ env.locals h' news' → Q .next { s with heap := h', toks := tk }) :
    LoopAtV prog w A h₀ env x body Q E (.ref I) s := by
  refine ⟨I, fp, [I], n, P, St, m₀, news, J, rfl, W, hLf, fun b hb => (List.mem_singleton.mp hb) ▸ hI0, fun p hp hq => hnw p hp (List.mem_singleton.mp hq), hst, F, N, h0, ?_, fun h' tk m' news' F' N' _ hJ => done m' news' h' tk hJ F' N'⟩
  rintro i v m₁ news₁ s₁ own ⟨hh, tk', rfl⟩ hi hP hJ hoff hown hat hall hst' F₁ N₁
  have hoff' : ∀ p ∈ news₁, p.1 ≠ I := fun p hp e => hoff p hp (List.mem_singleton.mpr e)
  obtain ⟨o, ho⟩ := hob _ _ hst'
  have hio : (I, o) ∈ own := hall I hIf hI0 o ho
  have N₂ : News h₀ env.locals hh ((I, o) :: news₁) := fun p hp => by
    rcases List.mem_cons.mp hp with rfl | hp
    · exact N₁ _ (List.mem_append_left _ hio)
    · exact N₁ _ (List.mem_append_right _ hp)
  refine wpAny_mono (turn i v m₁ news₁ hh tk' o hi hP hJ hoff' F₁ N₂) (fun f s₂ p => ?_) fun _ _ e => e
  have fin : (∃ h' tk m' full news', s₂ = { s with heap := h', toks := tk } ∧ Fr h₀ env.locals h' m' ∧ News h₀ env.locals h' full ∧ (I, o) ∈ full ∧ (∀ p ∈ news', p ∈ full) ∧ (∀ p ∈ news', p.1 ≠ I) ∧ J (i + 1) m' news') →
      LoopStepU h₀ env.locals [I] own (J (i + 1)) { s with heap := hh, toks := tk' } .next s₂ := by
    rintro ⟨h', tk, m', full, news', e, F', N', hf, hn, hne, hJ'⟩
    refine ⟨rfl, h', tk, m', news', e, F', fun q hq => ?_, fun q hq hq' => hne q hq (List.mem_singleton.mp hq'), hJ'⟩
    rcases List.mem_append.mp hq with hq | hq
    · have nq := N₁ q (List.mem_append_left _ hq)
      rcases hfp q.1 (hown q hq) with e1 | ⟨z, e1⟩ | e1
      · have : q = (I, o) := by
          have h4 := hat q hq
          rw [e1] at h4
          exact Prod.ext e1 (Option.some.inj (h4.symm.trans ho))
        rw [this]; exact N' _ hf
      · rw [nq.2.2] at e1; cases e1
      · obtain ⟨r, hr, e2⟩ := List.mem_map.mp e1
        have h5 := (N₁ r (List.mem_append_right _ (hJc _ _ _ hJ r hr))).1
        rw [e2, nq.1] at h5
        have : q = r := Prod.ext e2.symm (Option.some.inj h5)
        rw [this]; exact N' _ (hn _ (hJc _ _ _ hJ' r hr))
    · exact N' _ (hn q hq)
  cases f with
  | ret v => exact p
  | brk => exact p
  | next => exact fin p
  | cont => exact fin p

theorem newsAdd {g h h' : Heap} {L r : Addr} {m : Str → Option Value} {o : Obj} {news : List (Addr × Obj)} (F : Fr g L h m) (N : News g L h' news) (e : h'.get? r = some o) (ge : h.objs.size ≤ r) : News g L h' ((r, o) :: news) := fun q hq => by
  rcases List.mem_cons.mp hq with rfl | hq
  · exact ⟨e, Nat.ne_of_gt (Nat.lt_of_lt_of_le F.ns.lt ge), Heap.get?_none_of_le (Nat.le_trans F.above (Nat.le_of_lt (Nat.lt_of_lt_of_le F.ns.lt ge)))⟩
  · exact N q hq
theorem news_lt {g h : Heap} {L r : Addr} {news : List (Addr × Obj)} (N : News g L h news) (ge : h.objs.size ≤ r) : ∀ q ∈ news, q.1 < r := fun q hq => Nat.lt_of_lt_of_le (Heap.lt_size (N q hq).1) ge

theorem mp_c {w x : Str} {v r r' : Option Value} (h : ¬ w = x → r = r') : (if w = x then v else r) = if w = x then v else r' := by
  by_cases c : w = x
  · rw [if_pos c, if_pos c]
  · rw [if_neg c, if_neg c, h c]
theorem mp_s {m : Str → Option Value} {w x : Str} {v r : Option Value} (h : m x = v) (t : ¬ w = x → m w = r) : m w = if w = x then v else r := by
  by_cases c : w = x
  · rw [if_pos c, c, h]
  · rw [if_neg c, t c]
theorem map3_start {m : Str → Option Value} {x y z : Str} {v : Option Value} (h : m x = v) : m = fun w => if w = x then v else if w = y then m y else if w = z then m z else m w := funext fun _ => mp_s h fun _ => mp_s rfl fun _ => mp_s rfl fun _ => rfl
theorem map3_turn {m : Str → Option Value} {x y z : Str} {v v' u u' t t' : Option Value} :
    (fun w => if w = x then v else if w = y then u else if w = z then t else if w = x then v' else if w = y then u' else if w = z then t' else m w) = fun w => if w = x then v else if w = y then u else if w = z then t else m w := funext fun _ => mp_c fun h0 => mp_c fun h1 => mp_c fun h2 => (if_neg h0).trans ((if_neg h1).trans (if_neg h2))

theorem fill_K (w : World) : PySem.Challenge.rw_rt0101_01 = PySem.Challenge.rw_rt0101_01 ∨ Mine.hd.heap_1 w.params = [] := by
  k_fill
  exact Or.inl rfl
end
end Mine

namespace Mine
section
open PySem PySem.W PyProof.Rows PySem.Calls
theorem sub_nil {α : Type} {a : List α} : ∀ q ∈ ([] : List α), q ∈ a := fun _ h => nomatch h
theorem sub_cons {α : Type} {x : α} {a b : List α} (h : x ∈ a) (t : ∀ q ∈ b, q ∈ a) : ∀ q ∈ x :: b, q ∈ a := List.forall_mem_cons.mpr ⟨h, t⟩
theorem sub_app {α : Type} {a b c : List α} (h : ∀ q ∈ b, q ∈ a) (t : ∀ q ∈ c, q ∈ a) : ∀ q ∈ b ++ c, q ∈ a := fun q hq => (List.mem_append.mp hq).elim (h q) (t q)
theorem fa_app {α : Type} {P : α → Prop} {b c : List α} (h : ∀ q ∈ b, P q) (t : ∀ q ∈ c, P q) : ∀ q ∈ b ++ c, P q := fun q hq => (List.mem_append.mp hq).elim (h q) (t q)
theorem fa_cons {α : Type} {P : α → Prop} {x : α} {b : List α} (h : P x) (t : ∀ q ∈ b, P q) : ∀ q ∈ x :: b, P q := List.forall_mem_cons.mpr ⟨h, t⟩
theorem fa_nil {α : Type} {P : α → Prop} : ∀ q ∈ ([] : List α), P q := fun _ h => nomatch h
theorem many_back {g h h' : Heap} {L : Addr} {m : Str → Option Value} {K S S' : List (Addr × Obj)} {SA : List Addr} (F : Fr g L h m) (N : News g L h (K ++ S)) (eS : S.map (·.1) = SA) (eS' : S'.map (·.1) = SA) (hK : ∀ q ∈ K, q.1 ∉ SA)
    (k : ∀ b z, b ∉ SA → h.get? b = some z → h'.get? b = some z) (hl : ∀ q ∈ S', h'.get? q.1 = some q.2) : Fr g L h' m ∧ News g L h' (K ++ S') := by
  subst eS
  have D : ∀ b ∈ S.map (·.1), b ≠ L ∧ g.get? b = none := by
    intro b hb
    obtain ⟨q, hq, rfl⟩ := List.mem_map.mp hb
    exact (N q (List.mem_append_right _ hq)).2
  obtain ⟨oL, es, ep, hL, r⟩ := F.ns
  refine ⟨⟨⟨oL, es, ep, k _ _ (fun hm => (D _ hm).1 rfl) hL, r⟩, fun b x q => k b x (fun hm => ?_) (F.keep b x q), F.above⟩, fun q hq => ?_⟩
  · rw [(D b hm).2] at q; cases q
  · rcases List.mem_append.mp hq with hq | hq
    · have n := N q (List.mem_append_left _ hq); exact ⟨k _ _ (hK q hq) n.1, n.2⟩
    · exact ⟨hl q hq, D _ (by rw [← eS']; exact List.mem_map_of_mem hq)⟩
end
end Mine

namespace Mine
section
open PySem PySem.W PyProof.Rows PySem.Calls
/-- the first c digits of x, of n bits each, the lowest first -/
def dg (x n : Nat) (c : Nat) : List Int := (List.range c).map fun i => ((x / 2 ^ (n * i) % 2 ^ n : Nat) : Int)
theorem dg_length (x n c : Nat) : (dg x n c).length = c := by simp [dg]
theorem dg_get {x n c i : Nat} (h : i < c) : (dg x n c)[i]? = some ((x / 2 ^ (n * i) % 2 ^ n : Nat) : Int) := by
  simp [dg, h]
theorem nd_lt {a n : Nat} (hn : 0 < n) : a < 2 ^ (n * ((Builtin.Int.intBits (a : Int) + n - 1) / n)) := by
  have h1 := Nat.div_add_mod (Builtin.Int.intBits (a : Int) + n - 1) n
  have h2 := Nat.mod_lt (Builtin.Int.intBits (a : Int) + n - 1) hn
  have h3 : Builtin.Int.intBits (a : Int) ≤ n * ((Builtin.Int.intBits (a : Int) + n - 1) / n) := by omega
  have := PySem.intBits_le_iff.mp h3
  simpa using this
theorem dg_one {x n : Nat} (h : x < 2 ^ n) : dg x n 1 = [(x : Int)] := by
  show [((x / 2 ^ (n * 0) % 2 ^ n : Nat) : Int)] = _
  rw [Nat.mul_zero, Nat.pow_zero, Nat.div_one, Nat.mod_eq_of_lt h]
theorem dg_split (x n c1 c2 : Nat) : dg x n (c1 + c2) = dg (x % 2 ^ (n * c1)) n c1 ++ dg (x / 2 ^ (n * c1)) n c2 := by
  apply List.ext_getElem
  · simp [dg]
  · intro i h1 h2
    simp only [dg, List.length_map, List.length_range] at h1
    by_cases h : i < c1
    · rw [List.getElem_append_left (by simpa [dg] using h)]
      simp only [dg, List.getElem_map, List.getElem_range]
      congr 1
      have e : n * c1 = n * i + n * (c1 - i) := by rw [← Nat.mul_add]; congr 1; omega
      have e2 : n ≤ n * (c1 - i) := Nat.le_mul_of_pos_right n (by omega)
      rw [e, Nat.pow_add, Nat.mod_mul_right_div_self, Nat.mod_mod_of_dvd]
      exact Nat.pow_dvd_pow 2 e2
    · rw [List.getElem_append_right (by simp [dg]; omega)]
      simp only [dg, List.getElem_map, List.getElem_range, List.length_map, List.length_range]
      congr 1
      rw [Nat.div_div_eq_div_mul, ← Nat.pow_add, ← Nat.mul_add]
      congr 4
      omega
theorem xor_low (x s : Nat) : Builtin.bitXor (x : Int) (((x / 2 ^ s : Nat) : Int) * 2 ^ s) = ((x % 2 ^ s : Nat) : Int) := by
  rw [PyProof.Rows.bitXor_and]
  have e : (((x / 2 ^ s : Nat) : Int) * 2 ^ s) = ((x / 2 ^ s * 2 ^ s : Nat) : Int) := by simp
  rw [e]
  have ea : Builtin.bitAnd (x : Int) ((x / 2 ^ s * 2 ^ s : Nat) : Int) = ((x / 2 ^ s * 2 ^ s : Nat) : Int) := by
    have h0 : Builtin.bitAnd (x : Int) ((x / 2 ^ s * 2 ^ s : Nat) : Int) = ((x &&& (x / 2 ^ s * 2 ^ s) : Nat) : Int) := by
      unfold Builtin.bitAnd
      rw [decide_eq_true (Int.natCast_nonneg _), decide_eq_true (Int.natCast_nonneg _)]
      rfl
    rw [h0]
    congr 1
    apply Nat.eq_of_testBit_eq
    intro i
    rw [Nat.testBit_and, ← Nat.shiftLeft_eq, Nat.testBit_shiftLeft]
    by_cases hi : s ≤ i
    · simp only [ge_iff_le, hi, decide_true, Bool.true_and]
      rw [Nat.testBit_div_two_pow]
      have : i - s + s = i := by omega
      rw [this, Bool.and_self]
    · simp [hi]
  rw [ea]
  have := Nat.div_add_mod x (2 ^ s)
  have e3 : 2 ^ s * (x / 2 ^ s) = x / 2 ^ s * 2 ^ s := Nat.mul_comm _ _
  omega
theorem mid_is (L R : Nat) : ((L : Int) + (R : Int)).fdiv (2 ^ Int.toNat 1) = (((L + R) / 2 : Nat) : Int) := by
  rw [Int.fdiv_eq_ediv_of_nonneg _ (by decide)]
  show ((L : Int) + (R : Int)) / 2 = _
  omega
theorem shr_is (x s : Nat) : ((x : Int)).fdiv (2 ^ ((s : Int)).toNat) = ((x / 2 ^ s : Nat) : Int) := by
  rw [Int.fdiv_eq_ediv_of_nonneg _ (Int.le_of_lt (Int.pow_pos (by decide)))]
  simp
theorem bits_le {x m : Nat} (h : x < 2 ^ m) : Builtin.Int.intBits (x : Int) ≤ m := PySem.intBits_le_iff.mpr (by simpa using h)
theorem set_split (ds : List Int) (L : Nat) (x : Int) (h : L < ds.length) : ds.set L x = ds.take L ++ [x] ++ ds.drop (L + 1) := by
  rw [List.set_eq_take_append_cons_drop, if_pos h]; simp
theorem two_parts {ds a b : List Int} {L m R : Nat} (h1 : L < m) (h2 : m < R) (h3 : R ≤ ds.length) (ha : a.length = m - L) (hb : b.length = R - m) :
    ((ds.take L ++ a ++ ds.drop m).take m ++ b ++ (ds.take L ++ a ++ ds.drop m).drop R) = ds.take L ++ (a ++ b) ++ ds.drop R := by
  have el : (ds.take L ++ a).length = m := by rw [List.length_append, List.length_take, ha]; omega
  rw [List.take_append_of_le_length (by omega), List.take_of_length_le (by omega), List.drop_append, List.drop_eq_nil_of_le (by omega), List.nil_append, List.drop_drop, el]
  have : m + (R - m) = R := by omega
  rw [this]; simp
theorem ld_step {A' Ai b n dd R : Nat} (hb : 0 < b) (e : A' = Ai * 2 ^ n + dd) (hR : R = Ai % b) : A' / b = Ai / b * 2 ^ n + (R * 2 ^ n + dd) / b ∧ A' % b = (R * 2 ^ n + dd) % b := by
  have h1 : A' = b * (Ai / b * 2 ^ n) + (R * 2 ^ n + dd) := by
    rw [e, hR]
    have := Nat.div_add_mod Ai b
    have h2 : Ai * 2 ^ n = (b * (Ai / b) + Ai % b) * 2 ^ n := by rw [this]
    rw [h2, Nat.add_mul, Nat.mul_assoc, Nat.add_assoc]
  rw [h1]
  exact ⟨by rw [Nat.mul_add_div hb], by rw [Nat.mul_add_mod]⟩
theorem dig_step (a n c i : Nat) (h : i < c) : a / 2 ^ (n * (c - (i + 1))) = a / 2 ^ (n * (c - i)) * 2 ^ n + a / 2 ^ (n * (c - 1 - i)) % 2 ^ n := by
  have e1 : c - (i + 1) = c - 1 - i := by omega
  have e2 : c - i = (c - 1 - i) + 1 := by omega
  rw [e1, e2, Nat.mul_add, Nat.mul_one, Nat.pow_add, ← Nat.div_div_eq_div_mul, Nat.mul_comm (a / 2 ^ (n * (c - 1 - i)) / 2 ^ n), Nat.div_add_mod]
theorem fdiv_nat (x y : Nat) : ((x : Int)).fdiv (y : Int) = ((x / y : Nat) : Int) := by rw [Int.fdiv_eq_ediv_of_nonneg _ (Int.natCast_nonneg _)]; simp
theorem fmod_nat (x y : Nat) : ((x : Int)).fmod (y : Int) = ((x % y : Nat) : Int) := by rw [Int.fmod_eq_emod_of_nonneg _ (Int.natCast_nonneg _)]; simp
theorem ne_of_data {h : Heap} {a b : Addr} {oa ob : Obj} (ha : h.get? a = some oa) (hb : h.get? b = some ob) (hd : oa.data ≠ ob.data) : a ≠ b := fun e => by
  subst e; rw [ha] at hb; cases hb; exact hd rfl
end
end Mine

namespace Mine
section
open PySem PySem.W PyProof.Rows PySem.Calls
open PySem (Sem.wp)
theorem meta_str : ((Value.type ((Manifest.find? "str").elim "type" (·.metatype))) == Value.type "type") = true := by decide +kernel
theorem sub_str : isSubtype (.type "str") (.type "str") = pure true := by rw [isSubtype_type]; kernel_rfl
theorem kind_issubn : builtinKind "issubclass.nested" = none := by decide +kernel
theorem plain_issubn : plainId "issubclass.nested" = true := by decide +kernel
theorem args_issubn (a b c : Value) : argsOk "issubclass.nested" ⟨[a, b, c], []⟩ := by unfold argsOk; kernel_rfl
section
variable {prog : Program} {w : World} {A : Around} {E : Value → Shared → Prop} {s : Shared}
theorem issub_str {k : Value} {dep : Int} {tk : Tok} {Q : Fin → Shared → Prop} (hk : k = .int dep tk) (hq : Q (.done (.ret (.bool true))) s) :
    wpAny (model prog w) A (Builtin.«issubclass.nested» ⟨[.type "str", .type "str", k], []⟩) Q E s := by
  subst hk
  have hm := meta_str
  have hself := sub_str
  repeat (any_goals (first | assumption | (rw [if_pos hm]) | (rw [hself]) | wp_step))
theorem issub_str_meets {k : Value} {dep : Int} {tk : Tok} (hk : k = .int dep tk) : Meets (Builtin.«issubclass.nested» ⟨[.type "str", .type "str", k], []⟩) (fun _ R s => R (.ok (.ret (.bool true))) s) :=
  fun _ _ _ _ _ hs => issub_str hk hs
theorem issub_tuple {tp : Addr} {tk : Tok} {Q : Fin → Shared → Prop} (htp : s.heap.get? tp = some { cls := .type "tuple", data := .seq #[.type "str", .type "bytes"] })
    (hq : Q (.done (.ret (.bool true))) s) : wpAny (model prog w) A (Builtin.«issubclass.nested» ⟨[.type "str", .ref tp, .int 0 tk], []⟩) Q E s := by
  obtain ⟨h, g, d, t, os⟩ := s
  have hT2 : (⟨h, g, d, t, os⟩ : Shared).TypeIs (.ref tp) "tuple" := ⟨_, htp, rfl⟩
  have f1 := F.isi_sub_tuple
  obtain ⟨arr, ea⟩ : ∃ arr : Array Value, arr = #[.type "str", .type "bytes"] := ⟨_, rfl⟩
  rw [← ea] at htp
  repeat (any_goals (first | assumption | wp_step))
  refine wpAny_arrayLoop ?_
  simp only [Option.getD_some]
  subst ea
  show wpAny _ _ (forIn [Value.type "str", Value.type "bytes"] _ _) _ _ _
  rw [List.forIn_cons]
  refine wpAny_bind (wpAny_bind (call_function_meets kind_issubn plain_issubn F.entry_issubclass_nested (args_issubn _ _ _) (issub_str_meets rfl) ?_))
  show wpAny _ _ (truthy (.bool true) >>= _) _ _ _
  refine wpAny_bind (m := truthy (.bool true)) (wpAny_pure ?_)
  exact wpAny_bind (wpAny_pure (wpAny_pure (wpAny_pure (wpAny_pure hq))))
theorem call_issub_str {tp : Addr} {Q : Value → Shared → Prop} (htp : s.heap.get? tp = some { cls := .type "tuple", data := .seq #[.type "str", .type "bytes"] })
    (hq : Q (.bool true) s) : wpAny (model prog w) A (call (.builtin "issubclass") [.type "str", .ref tp]) Q E s :=
  call_issubclass (S := fun _ R s => s.heap.get? tp = some { cls := .type "tuple", data := .seq #[.type "str", .type "bytes"] } ∧ R (.ok (.ret (.bool true))) s)
    (fun _ _ _ _ _ hs => issubclass_outer (issub_tuple hs.1 hs.2)) ⟨htp, hq⟩

theorem peek1B {α : Type} {K : Frag} {M : Model} {A : Around} {E : Value → Shared → Prop} {Q : α → Shared → Prop} {s : Shared} {o : Obj} {r : Addr → α}
    (X : K.In s.heap) (q : Q (r s.heap.objs.size) { s with heap := s.heap.push o }) :
    ∀ (t : Sem α) (g : Addr → Option α), peek1 K ⟨M.prog, M.w.params⟩ t = some (o, g) → (∀ D, g D = some (r D)) → wpAny M A t Q E s := by
  intro t
  induction t with
  | rule _ k ih => intro g e hg Γ p hΓ; exact ih () g e hg Γ p hΓ
  | point _ k ih => intro g e hg Γ p hΓ; exact ih () g e hg Γ p hΓ
  | ask k ih => intro g e hg Γ p hΓ; exact ih _ g e hg Γ p hΓ
  | load a _ k ih =>
    intro g e hg Γ p hΓ
    simp only [peek1] at e
    split at e
    · rename_i ob ho; exact ⟨ob, X _ _ ho, ih ob g e hg Γ p hΓ⟩
    · cases e
  | alloc ob k _ =>
    intro g e hg
    have e : some (ob, fun D => peek K ⟨M.prog, M.w.params⟩ (k D)) = some (o, g) := e
    obtain ⟨e1, e2⟩ := Prod.mk.inj (Option.some.inj e)
    subst e1
    subst e2
    have X' : K.In (s.heap.push ob) := X.keeps fun b x hb => Heap.get?_push_of_some _ hb
    show wpAny M A (alloc ob >>= k) Q E s
    refine wpAny_bind (wpAny_alloc ?_)
    exact (Looks.of_peek (M := M) (h := s.heap.push ob) X' (hg s.heap.objs.size)).here (s := { s with heap := s.heap.push ob }) q
  | _ => intro g e; cases e
end
section
variable {prog : Program} {w : World} {A : Around} {s : Shared} {R : Result → Shared → Prop} {name qual : Str} {params : Arguments} {body : List Stmt} {scope : Scope} {cl : List (Str × Addr)}
    {dV kV doc pm cdv ct oc : Value} {an od : Option Addr} {osl : Array (Option Value)} {f : Addr} {args : Args} {binds : Addr → List (Str × Value)} {p : Program} {loose : List Str} {mean : ExcName → Option Value} {mg mb : Str → Option Value} {H0 : Heap}
    {M : List (Addr × Obj)} {vs : List Value} {g₁ : Addr → Option (List (Str × Value))}
theorem enter_rest (G : Gnd w p loose mean mg mb H0) (k : H0.StaysIn s.heap)
    (ho : (Mine.hd.heap_1 w.params).lookup f = some ⟨oc, od, .func (fnX name qual params body scope cl dV kV doc pm an cdv ct), osl⟩) (hcd : codeIn (Mine.hd.heap_1 w.params) cdv qual = true) (hroom : A.depth < recursionLimit)
    (hM : ∀ p ∈ M, s.heap.get? p.1 = some p.2) (hn : ∀ p ∈ M, H0.get? p.1 = none)
    (hp : peek1 (Mine.hd.heap_1 w.params) ⟨prog, w.params⟩ (bindArgs (fnX name qual params body scope cl dV kV doc pm an cdv ct) args) = some (({ cls := .type "tuple", data := .seq vs.toArray } : Obj), g₁))
    (hg : ∀ D, g₁ D = some (binds D)) (hloc : ∀ D, ∀ y ∈ binds D, scope.names.lookup y.1 = some .local)
    (h : ∀ D L h₁ g, D = s.heap.objs.size → L = s.heap.objs.size + 1 → g = hideAll s.heap (M.map (·.1)) → H0.StaysIn g → Fr g L h₁ (fun y => (binds D).reverse.lookup y) → News g L h₁ ((D, ({ cls := .type "tuple", data := .seq vs.toArray } : Obj)) :: M) → (∀ q ∈ M, q.1 < D) →
      wpAny (model prog w) (A.deeper (envX qual scope L f cdv cl)) (execs body (envX qual scope L f cdv cl))
        (fun fl s' => R (.ok (.ret (match fl with | .ret v => v | _ => .none))) s') (fun _ _ => False)
        { s with heap := h₁, toks := s.toks + (binds D).length })
    (hcell : ∀ x ∈ scope.names, x.2 ≠ .cell) (hco : scope.isCoroutine = false := by rfl) (hgen : scope.isGenerator = false := by rfl) (hk : scope.kind = .function := by rfl) :
    codeAny (model prog w) A (.call (.ref f) args) R s := by
  have X₀ := G.X.keeps k
  refine codeAny_call_function (fd := fnX name qual params body scope cl dV kV doc pm an cdv ct) (body := body) hroom (X₀ _ _ ho) rfl hco hgen rfl (codeRec_of X₀ hcd) ?_
  refine peek1B (r := binds) (o := ({ cls := .type "tuple", data := .seq vs.toArray } : Obj)) X₀ ?_ _ g₁ hp hg
  refine wpAny_newFunctionEnv hcell (hloc _) (fun h₁ hns hsb => ⟨(((G.T.keeps k).nolimit).push _).fresh _ hsb, codeAny_func ?_⟩) hk
  have hk₁ : ∀ b o, (s.heap.push ({ cls := .type "tuple", data := .seq vs.toArray } : Obj)).get? b = some o → h₁.get? b = some o := fun b o e => hsb.extBut b o (Nat.ne_of_lt (Heap.lt_size e)) (Heap.get?_push_of_some _ e)
  have hk₂ : ∀ b o, s.heap.get? b = some o → h₁.get? b = some o := fun b o e => hk₁ b o (Heap.get?_push_of_some _ e)
  have hsz : (s.heap.push ({ cls := .type "tuple", data := .seq vs.toArray } : Obj)).objs.size = s.heap.objs.size + 1 := Heap.size_push ..
  have hD : (s.heap.push ({ cls := .type "tuple", data := .seq vs.toArray } : Obj)).get? s.heap.objs.size = some ({ cls := .type "tuple", data := .seq vs.toArray } : Obj) := Heap.get?_push_size _ rfl
  refine wpAny_mono (h _ (s.heap.push ({ cls := .type "tuple", data := .seq vs.toArray } : Obj)).objs.size h₁ _ rfl hsz rfl (stays_hide k fun a ha => ?_) ⟨hns, fun b o e => hk₂ b o (of_hideAll _ e), by rw [hideAll_size, hsz]; exact Nat.le_succ _⟩ ?_ fun q hq => Heap.lt_size (hM q hq)) (fun _ _ y => y) (fun _ _ y => y.elim)
  · obtain ⟨q, hq, rfl⟩ := List.mem_map.mp ha
    exact hn q hq
  · intro q hq
    rcases List.mem_cons.mp hq with rfl | hq
    · refine ⟨hk₁ _ _ hD, Nat.ne_of_lt (by rw [hsz]; exact Nat.lt_succ_self _), ?_⟩
      cases q : (hideAll s.heap (M.map (·.1))).get? s.heap.objs.size with
      | none => rfl
      | some o => exact absurd (Heap.lt_size (of_hideAll _ q)) (Nat.lt_irrefl _)
    · exact ⟨hk₂ _ _ (hM _ hq), Nat.ne_of_lt (by rw [hsz]; exact Nat.lt_succ_of_lt (Heap.lt_size (hM _ hq))), hideAll_none _ (List.mem_map_of_mem hq)⟩
end
end
end Mine

namespace Mine
section
open PySem PySem.W PyProof.Rows PySem.Calls
theorem map5_start {m : Str → Option Value} {x0 x1 x2 x3 x4 : Str} {v : Option Value} (h : m x0 = v) : m = fun w => if w = x0 then v else if w = x1 then m x1 else if w = x2 then m x2 else if w = x3 then m x3 else if w = x4 then m x4 else m w := funext fun _ => mp_s h fun _ => mp_s rfl fun _ => mp_s rfl fun _ => mp_s rfl fun _ => mp_s rfl fun _ => rfl
theorem map5_turn {m : Str → Option Value} {x0 x1 x2 x3 x4 : Str} {v0 v1 v2 v3 v4 u0 u1 u2 u3 u4 : Option Value} :
    (fun w => if w = x0 then v0 else if w = x1 then v1 else if w = x2 then v2 else if w = x3 then v3 else if w = x4 then v4 else if w = x0 then u0 else if w = x1 then u1 else if w = x2 then u2 else if w = x3 then u3 else if w = x4 then u4 else m w) = fun w => if w = x0 then v0 else if w = x1 then v1 else if w = x2 then v2 else if w = x3 then v3 else if w = x4 then v4 else m w := funext fun _ => mp_c fun h0 => mp_c fun h1 => mp_c fun h2 => mp_c fun h3 => mp_c fun h4 => (if_neg h0).trans ((if_neg h1).trans ((if_neg h2).trans ((if_neg h3).trans (if_neg h4))))
end
end Mine

namespace Mine
section
open PySem PySem.W PyProof.Rows PySem.Calls
theorem map2_start {m : Str → Option Value} {x y : Str} {v : Option Value} (h : m x = v) : m = fun w => if w = x then v else if w = y then m y else m w := funext fun _ => mp_s h fun _ => mp_s rfl fun _ => rfl
theorem map2_turn {m : Str → Option Value} {x y : Str} {v v' u u' : Option Value} :
    (fun w => if w = x then v else if w = y then u else if w = x then v' else if w = y then u' else m w) = fun w => if w = x then v else if w = y then u else m w := funext fun _ => mp_c fun h0 => mp_c fun h1 => (if_neg h0).trans (if_neg h1)
theorem strs_get {vs : List Value} {ys : List Str} (h : StrsAre vs ys) : ∀ {i : Nat} {y : Str}, ys[i]? = some y → ∃ t, vs[i]? = some (.str y t) := by
  induction h with
  | nil => intro i y e; simp at e
  | cons y t _ ih =>
    intro i z e
    cases i with
    | zero => simp at e; subst e; exact ⟨t, rfl⟩
    | succ i => simp only [List.getElem?_cons_succ] at e ⊢; exact ih e
theorem strs_len {vs : List Value} {ys : List Str} (h : StrsAre vs ys) : vs.length = ys.length := by
  induction h with
  | nil => rfl
  | cons _ _ _ ih => simp [ih]
theorem strs_app {vs us : List Value} {ys zs : List Str} (h : StrsAre vs ys) (g : StrsAre us zs) : StrsAre (vs ++ us) (ys ++ zs) := by
  induction h with
  | nil => exact g
  | cons y t _ ih => exact .cons y t ih
/-- spent by a stop of the walk -/
def Mark : Prop := True
theorem mark : Mark := trivial
def Cut (P : Prop) : Prop := P
theorem newsAddF {g h h' : Heap} {L r : Addr} {m : Str → Option Value} {o : Obj} {news : List (Addr × Obj)} (F : Fr g L h m) (N : News g L h' news) (e : h'.get? r = some o) (ge : h.get? r = none) : News g L h' ((r, o) :: news) := fun q hq => by
  rcases List.mem_cons.mp hq with rfl | hq
  · refine ⟨e, ?_, fresh_of_stays F.keep ge⟩
    obtain ⟨oL, _, _, hL, _⟩ := F.ns
    intro he
    subst he
    rw [hL] at ge; cases ge
  · exact N q hq
theorem news_ne {g h : Heap} {L r : Addr} {news : List (Addr × Obj)} (N : News g L h news) (ge : h.get? r = none) : ∀ q ∈ news, @Ne Nat q.1 r := fun q hq e => by
  have := (N q hq).1
  rw [e, ge] at this; cases this
theorem map1_start {m : Str → Option Value} {x : Str} {v : Option Value} (h : m x = v) : m = fun w => if w = x then v else m w := funext fun _ => mp_s h fun _ => rfl
theorem map1_turn {m : Str → Option Value} {x : Str} {v v' : Option Value} : (fun w => if w = x then v else if w = x then v' else m w) = fun w => if w = x then v else m w := funext fun _ => mp_c fun h0 => if_neg h0
theorem allLt_mem {d : Addr} {l : List (Addr × Obj)} (h : AllLt d l) : ∀ q ∈ l, @LT.lt Nat _ q.1 d := by
  induction l with
  | nil => intro q hq; cases hq
  | cons p r ih =>
    intro q hq
    rcases List.mem_cons.mp hq with e | hq
    · rw [e]; exact h.1
    · exact ih h.2 q hq
theorem newsPush {g h : Heap} {L : Addr} {m : Str → Option Value} {news : List (Addr × Obj)} (F : Fr g L h m) (N : News g L h news) (o : Obj) (hf : o.isFreed = false) :
    Fr g L (h.push o) m ∧ News g L (h.push o) ((h.objs.size, o) :: news) ∧ (∀ q ∈ news, @LT.lt Nat _ q.1 h.objs.size) :=
  ⟨F.push o, News.push F N o hf, fun _ hq => Heap.lt_size (N _ hq).1⟩
theorem loopT {prog : Program} {w : World} {A : Around} {E : Value → Shared → Prop} {s : Shared} {env : Env} {h₀ : Heap} {target : Expr} {body : List Stmt} {Q : Flow → Shared → Prop} {I : Addr} {fp : List Addr} {n : Nat} {P : Nat → Value → Prop} {St : Nat → Heap → Prop} {m₀ : Str → Option Value}
    {news cont : List (Addr × Obj)} (J : Nat → (Str → Option Value) → List (Addr × Obj) → Prop) (W : Walks prog w A I fp [I] n P St) (hgo : ∀ i v (s : Shared) (Q : Unit → Shared → Prop) (E : Value → Shared → Prop), St i s.heap → Q () s → wpAny (model prog w) A (letOwnedTupleGo target (.ref I) v) Q E s) (hIf : I ∈ fp) (hfp : ∀ b ∈ fp, b = I ∨ (∃ q, h₀.get? b = some q) ∨ b ∈ cont.map (·.1)) (hI0 : h₀.get? I = none)
    (hob : ∀ i h, St i h → ∃ o, h.get? I = some o) (hJc : ∀ i m ns, J i m ns → ∀ q ∈ cont, q ∈ ns) (hLf : env.locals ∉ fp) (hnw : ∀ p ∈ news, p.1 ≠ I) (hst : St 0 s.heap) (F : Fr h₀ env.locals s.heap m₀) (N : News h₀ env.locals s.heap news) (h0 : J 0 m₀ news)
    (turn : ∀ i v m₁ news₁ h tk o, i < n → P i v → J i m₁ news₁ → (∀ p ∈ news₁, p.1 ≠ I) → Fr h₀ env.locals h m₁ → News h₀ env.locals h ((I, o) :: news₁) →
      wpAny (model prog w) A (assign target env v) (fun _ s₃ => wpAny (model prog w) A (execs body env) (EndK h₀ env.locals I o (J (i + 1)) { s with heap := h, toks := tk } Q) E s₃) E { s with heap := h, toks := tk })
    (done : ∀ m' news' h' tk, J n m' news' → Fr h₀ env.locals h' m' → News h₀ env.locals h' news' → Q .next { s with heap := h', toks := tk }) :
    TurnsAt prog w A h₀ env target body Q E (.ref I) s := by
  refine ⟨I, fp, [I], n, _, _, St, m₀, news, J, rfl, KTurns.ofWalks W hgo, hLf, fun b hb => (List.mem_singleton.mp hb) ▸ hI0, fun p hp hq => hnw p hp (List.mem_singleton.mp hq), hst, F, N, h0, ?_, fun h' tk m' news' F' N' _ hJ => done m' news' h' tk hJ F' N'⟩
  rintro i v m₁ news₁ hh tk' own hi hP hJ hoff hown hat hall hst' F₁ N₁
  have hoff' : ∀ p ∈ news₁, p.1 ≠ I := fun p hp e => hoff p hp (List.mem_singleton.mpr e)
  obtain ⟨o, ho⟩ := hob _ _ hst'
  have hio : (I, o) ∈ own := hall I hIf hI0 o ho
  have N₂ : News h₀ env.locals hh ((I, o) :: news₁) := fun p hp => by
    rcases List.mem_cons.mp hp with rfl | hp
    · exact N₁ _ (List.mem_append_left _ hio)
    · exact N₁ _ (List.mem_append_right _ hp)
  refine wpAny_mono (turn i v m₁ news₁ hh tk' o hi hP hJ hoff' F₁ N₂) (fun _ s₃ p₃ => wpAny_mono p₃ (fun f s₂ p => ?_) fun _ _ e => e) fun _ _ e => e
  have fin : (∃ h' tk m' full news', s₂ = { s with heap := h', toks := tk } ∧ Fr h₀ env.locals h' m' ∧ News h₀ env.locals h' full ∧ (I, o) ∈ full ∧ (∀ p ∈ news', p ∈ full) ∧ (∀ p ∈ news', p.1 ≠ I) ∧ J (i + 1) m' news') →
      LoopStepU h₀ env.locals [I] own (J (i + 1)) { s with heap := hh, toks := tk' } .next s₂ := by
    rintro ⟨h', tk, m', full, news', e, F', N', hf, hn, hne, hJ'⟩
    refine ⟨rfl, h', tk, m', news', e, F', fun q hq => ?_, fun q hq hq' => hne q hq (List.mem_singleton.mp hq'), hJ'⟩
    rcases List.mem_append.mp hq with hq | hq
    · have nq := N₁ q (List.mem_append_left _ hq)
      rcases hfp q.1 (hown q hq) with e1 | ⟨z, e1⟩ | e1
      · have : q = (I, o) := by
          have h4 := hat q hq
          rw [e1] at h4
          exact Prod.ext e1 (Option.some.inj (h4.symm.trans ho))
        rw [this]; exact N' _ hf
      · rw [nq.2.2] at e1; cases e1
      · obtain ⟨r, hr, e2⟩ := List.mem_map.mp e1
        have h5 := (N₁ r (List.mem_append_right _ (hJc _ _ _ hJ r hr))).1
        rw [e2, nq.1] at h5
        have : q = r := Prod.ext e2.symm (Option.some.inj h5)
        rw [this]; exact N' _ (hn _ (hJc _ _ _ hJ' r hr))
    · exact N' _ (hn q hq)
  cases f with
  | ret v => exact p
  | brk => exact p
  | next => exact fin p
  | cont => exact fin p

section
variable {prog : Program} {w : World} {A : Around} {E : Value → Shared → Prop} {s : Shared} {env : Env} {h₀ : Heap} {x : Str} {target : Expr} {body : List Stmt} {Q : Flow → Shared → Prop} {m₀ : Str → Option Value} {news : List (Addr × Obj)}
theorem rangeK {n : Nat} {t : Tok} (J : Nat → (Str → Option Value) → List (Addr × Obj) → Prop) (hh : A.handled = none) (F : Fr h₀ env.locals s.heap m₀) (N : News h₀ env.locals s.heap news) (hn : n ≤ 1000000) (h0 : J 0 m₀ news)
    (turn : ∀ I i t m₁ news₁ h tk o, i < n → J i m₁ news₁ → (∀ p ∈ news₁, @Ne Nat p.1 I) → Fr h₀ env.locals h (fun y => if y = x then some (.int (i : Int) t) else m₁ y) → News h₀ env.locals h ((I, o) :: news₁) →
      wpAny (model prog w) A (execs body env) (EndK h₀ env.locals I o (J (i + 1)) { s with heap := h, toks := tk } Q) E { s with heap := h, toks := tk })
    (done : ∀ m' news' h' tk, J n m' news' → Fr h₀ env.locals h' m' → News h₀ env.locals h' news' → Q .next { s with heap := h', toks := tk }) :
    wpAny (model prog w) A (call (.type "range") [.int (n : Int) t]) (fun r s₁ => wpAny (model prog w) A (pyIter r) (fun it s₂ => LoopAtV prog w A h₀ env x body Q E it s₂) E s₁) E s := by
  refine range1_rows F N fun h' tk t₁ u₁ v₁ hr F1 N1 _ => ?_
  have hsz : Builtin.Range.rangeSize 0 (n : Int) 1 = (n : Int) := by
    unfold Builtin.Range.rangeSize
    rw [if_pos (by decide)]
    split <;> omega
  have hfit : ∀ z : Int, 0 ≤ z → z ≤ 1000000 → Builtin.Range.rangeFitsLong z = true := by
    intro z h1 h2
    unfold Builtin.Range.rangeFitsLong
    simp only [Bool.and_eq_true, decide_eq_true_eq]
    omega
  refine wpAny_pyIter_range hr ?_ ?_
  · unfold Builtin.Range.small
    rw [hsz]
    simp only [hfit 0 (by omega) (by omega), hfit (n : Int) (by omega) (by omega), hfit 1 (by omega) (by omega), show (1 : Int) > 0 from by decide, if_true, show ((n : Int) + (1 - 1)) = (n : Int) from by omega, Bool.and_self, Bool.or_true]
  rw [hsz]
  have hfr : ({ cls := .type "range_iterator", data := .fields #[rawInt 0, rawInt (n : Int), rawInt 1] } : Obj).isFreed = false := rfl
  obtain ⟨F2, N2, l2⟩ := newsPush F1 N1 _ hfr
  refine loopK (n := n) (cont := []) J (LCg.range_walks hh 0 n) (.head _) (fun b hb => .inl (List.mem_singleton.mp hb)) (N2 _ (.head _)).2.2 ?_ (fun _ _ _ _ _ q => nomatch q) ?_ (fun q hq => Nat.ne_of_lt (l2 q hq)) ?_ F2 (fun q hq => N2 q (.tail _ hq)) h0 ?_ ?_
  · intro i hh2 hst; exact ⟨_, hst⟩
  · intro hm; exact (N2 _ (.head _)).2.1 (List.mem_singleton.mp hm).symm
  · show IsRangeIter _ _ _ _ _
    unfold IsRangeIter
    have e := (N2 _ (.head _)).1
    simpa using e
  · rintro i v m₁ news₁ h tk2 o hi ⟨t, rfl⟩ hJ hne FF NN
    rw [Int.zero_add] at FF
    exact turn _ i t m₁ news₁ h tk2 o hi hJ hne FF NN
  · intro m' news' h2 tk2 hJ FF NN
    exact done m' news' h2 tk2 hJ FF NN

theorem listK {l : Addr} {its : Array Value} (J : Nat → (Str → Option Value) → List (Addr × Obj) → Prop) (hh : A.handled = none) (F : Fr h₀ env.locals s.heap m₀) (N : News h₀ env.locals s.heap news)
    (cont : List (Addr × Obj)) (hl : s.heap.IsList l its) (hc : (∃ q, h₀.get? l = some q) ∨ l ∈ cont.map (·.1)) (hlL : @Ne Nat env.locals l) (hJc : ∀ i m ns, J i m ns → ∀ q ∈ cont, q ∈ ns) (h0 : J 0 m₀ news)
    (turn : ∀ I i v m₁ news₁ h tk o, i < its.size → its[i]? = some v → J i m₁ news₁ → (∀ p ∈ news₁, @Ne Nat p.1 I) → Fr h₀ env.locals h (fun y => if y = x then some v else m₁ y) → News h₀ env.locals h ((I, o) :: news₁) →
      wpAny (model prog w) A (execs body env) (EndK h₀ env.locals I o (J (i + 1)) { s with heap := h, toks := tk } Q) E { s with heap := h, toks := tk })
    (done : ∀ m' news' h' tk, J its.size m' news' → Fr h₀ env.locals h' m' → News h₀ env.locals h' news' → Q .next { s with heap := h', toks := tk }) :
    wpAny (model prog w) A (pyIter (.ref l)) (fun it s₂ => LoopAtV prog w A h₀ env x body Q E it s₂) E s := by
  obtain ⟨ol, hol, rl⟩ := id hl
  refine wpAny_pyIter_list hl ?_
  have hfr : ({ cls := .type "list_iterator", data := .fields #[.ref l, .int 0 0] } : Obj).isFreed = false := rfl
  obtain ⟨F2, N2, l2⟩ := newsPush F N _ hfr
  have hlt := Heap.lt_size hol
  refine loopK (n := its.size) (cont := cont) J (Walks.list hh _ l (Nat.ne_of_lt hlt) its) (.head _) ?_ (N2 _ (.head _)).2.2 ?_ hJc ?_ (fun q hq => Nat.ne_of_lt (l2 q hq)) ?_ F2 (fun q hq => N2 q (.tail _ hq)) h0 ?_ ?_
  · intro b hb
    rcases List.mem_cons.mp hb with e | hb
    · exact .inl e
    · exact .inr (by rw [List.mem_singleton.mp hb]; exact hc)
  · rintro i hh2 ⟨⟨o, ho, _⟩, _⟩; exact ⟨o, ho⟩
  · intro hm
    rcases List.mem_cons.mp hm with e | hm
    · exact (N2 _ (.head _)).2.1 e.symm
    · exact hlL (List.mem_singleton.mp hm)
  · exact ⟨⟨_, (N2 _ (.head _)).1, rfl, rfl⟩, ⟨ol, Heap.get?_push_of_some _ hol, rl⟩⟩
  · rintro i v m₁ news₁ h tk2 o hi hP hJ hne FF NN
    exact turn _ i v m₁ news₁ h tk2 o hi hP hJ hne FF NN
  · intro m' news' h2 tk2 hJ FF NN
    exact done m' news' h2 tk2 hJ FF NN

theorem listT {l : Addr} {its : Array Value} (J : Nat → (Str → Option Value) → List (Addr × Obj) → Prop) (hh : A.handled = none) (F : Fr h₀ env.locals s.heap m₀) (N : News h₀ env.locals s.heap news)
    (cont : List (Addr × Obj)) (hl : s.heap.IsList l its) (hc : (∃ q, h₀.get? l = some q) ∨ l ∈ cont.map (·.1)) (hlL : @Ne Nat env.locals l) (hJc : ∀ i m ns, J i m ns → ∀ q ∈ cont, q ∈ ns) (h0 : J 0 m₀ news)
    (turn : ∀ I i v m₁ news₁ h tk o, i < its.size → its[i]? = some v → J i m₁ news₁ → (∀ p ∈ news₁, @Ne Nat p.1 I) → Fr h₀ env.locals h m₁ → News h₀ env.locals h ((I, o) :: news₁) →
      wpAny (model prog w) A (assign target env v) (fun _ s₃ => wpAny (model prog w) A (execs body env) (EndK h₀ env.locals I o (J (i + 1)) { s with heap := h, toks := tk } Q) E s₃) E { s with heap := h, toks := tk })
    (done : ∀ m' news' h' tk, J its.size m' news' → Fr h₀ env.locals h' m' → News h₀ env.locals h' news' → Q .next { s with heap := h', toks := tk }) :
    wpAny (model prog w) A (pyIter (.ref l)) (fun it s₂ => TurnsAt prog w A h₀ env target body Q E it s₂) E s := by
  obtain ⟨ol, hol, rl⟩ := id hl
  refine wpAny_pyIter_list hl ?_
  have hfr : ({ cls := .type "list_iterator", data := .fields #[.ref l, .int 0 0] } : Obj).isFreed = false := rfl
  obtain ⟨F2, N2, l2⟩ := newsPush F N _ hfr
  have hlt := Heap.lt_size hol
  refine loopT (n := its.size) (cont := cont) J (Walks.list hh _ l (Nat.ne_of_lt hlt) its) (fun i v s Q E st q => letGo_listiter st.1 q) (.head _) ?_ (N2 _ (.head _)).2.2 ?_ hJc ?_ (fun q hq => Nat.ne_of_lt (l2 q hq)) ?_ F2 (fun q hq => N2 q (.tail _ hq)) h0 ?_ ?_
  · intro b hb
    rcases List.mem_cons.mp hb with e | hb
    · exact .inl e
    · exact .inr (by rw [List.mem_singleton.mp hb]; exact hc)
  · rintro i hh2 ⟨⟨o, ho, _⟩, _⟩; exact ⟨o, ho⟩
  · intro hm
    rcases List.mem_cons.mp hm with e | hm
    · exact (N2 _ (.head _)).2.1 e.symm
    · exact hlL (List.mem_singleton.mp hm)
  · exact ⟨⟨_, (N2 _ (.head _)).1, rfl, rfl⟩, ⟨ol, Heap.get?_push_of_some _ hol, rl⟩⟩
  · rintro i v m₁ news₁ h tk2 o hi hP hJ hne FF NN
    exact turn _ i v m₁ news₁ h tk2 o hi hP hJ hne FF NN
  · intro m' news' h2 tk2 hJ FF NN
    exact done m' news' h2 tk2 hJ FF NN

theorem tupleK {l : Addr} {its : Array Value} (J : Nat → (Str → Option Value) → List (Addr × Obj) → Prop) (hh : A.handled = none) (F : Fr h₀ env.locals s.heap m₀) (N : News h₀ env.locals s.heap news)
    (cont : List (Addr × Obj)) (hl : s.heap.IsTuple l its) (hc : (∃ q, h₀.get? l = some q) ∨ l ∈ cont.map (·.1)) (hlL : @Ne Nat env.locals l) (hJc : ∀ i m ns, J i m ns → ∀ q ∈ cont, q ∈ ns) (h0 : J 0 m₀ news)
    (turn : ∀ I i v m₁ news₁ h tk o, i < its.size → its[i]? = some v → J i m₁ news₁ → (∀ p ∈ news₁, @Ne Nat p.1 I) → Fr h₀ env.locals h (fun y => if y = x then some v else m₁ y) → News h₀ env.locals h ((I, o) :: news₁) →
      wpAny (model prog w) A (execs body env) (EndK h₀ env.locals I o (J (i + 1)) { s with heap := h, toks := tk } Q) E { s with heap := h, toks := tk })
    (done : ∀ m' news' h' tk, J its.size m' news' → Fr h₀ env.locals h' m' → News h₀ env.locals h' news' → Q .next { s with heap := h', toks := tk }) :
    wpAny (model prog w) A (pyIter (.ref l)) (fun it s₂ => LoopAtV prog w A h₀ env x body Q E it s₂) E s := by
  obtain ⟨ol, hol, rl⟩ := id hl
  refine wpAny_pyIter_tuple hl ?_
  have hfr : ({ cls := .type "tuple_iterator", data := .fields #[.ref l, .int 0 0] } : Obj).isFreed = false := rfl
  obtain ⟨F2, N2, l2⟩ := newsPush F N _ hfr
  have hlt := Heap.lt_size hol
  refine loopK (n := its.size) (cont := cont) J (Walks.tuple hh _ l (Nat.ne_of_lt hlt) its) (.head _) ?_ (N2 _ (.head _)).2.2 ?_ hJc ?_ (fun q hq => Nat.ne_of_lt (l2 q hq)) ?_ F2 (fun q hq => N2 q (.tail _ hq)) h0 ?_ ?_
  · intro b hb
    rcases List.mem_cons.mp hb with e | hb
    · exact .inl e
    · exact .inr (by rw [List.mem_singleton.mp hb]; exact hc)
  · rintro i hh2 ⟨⟨o, ho, _⟩, _⟩; exact ⟨o, ho⟩
  · intro hm
    rcases List.mem_cons.mp hm with e | hm
    · exact (N2 _ (.head _)).2.1 e.symm
    · exact hlL (List.mem_singleton.mp hm)
  · exact ⟨⟨_, (N2 _ (.head _)).1, rfl, rfl⟩, ⟨ol, Heap.get?_push_of_some _ hol, rl⟩⟩
  · rintro i v m₁ news₁ h tk2 o hi hP hJ hne FF NN
    exact turn _ i v m₁ news₁ h tk2 o hi hP hJ hne FF NN
  · intro m' news' h2 tk2 hJ FF NN
    exact done m' news' h2 tk2 hJ FF NN
end
end
end Mine

namespace Mine
section
open PySem PySem.W PyProof.Rows PySem.Calls
/-- what a loop's turn is to show, with nothing of the loop's own in it -/
def EndN (h₀ : Heap) (L I : Addr) (o : Obj) (J : (Str → Option Value) → List (Addr × Obj) → Prop) (s₁ : Shared) (f : Flow) (s₂ : Shared) : Prop :=
  match f with
  | .ret _ => False
  | .brk => False
  | _ => ∃ h' tk m' full news', s₂ = { s₁ with heap := h', toks := tk } ∧ Fr h₀ L h' m' ∧ News h₀ L h' full ∧ (I, o) ∈ full ∧ (∀ p ∈ news', p ∈ full) ∧ (∀ p ∈ news', p.1 ≠ I) ∧ J m' news'
theorem EndN.to {h₀ : Heap} {L I : Addr} {o : Obj} {J : (Str → Option Value) → List (Addr × Obj) → Prop} {s₁ : Shared} {Q : Flow → Shared → Prop} {f : Flow} {s₂ : Shared} (h : EndN h₀ L I o J s₁ f s₂) : EndK h₀ L I o J s₁ Q f s₂ := by
  cases f with
  | ret v => exact False.elim h
  | brk => exact False.elim h
  | next => exact h
  | cont => exact h
theorem EndN.mk' {h₀ : Heap} {L I : Addr} {o : Obj} {J : (Str → Option Value) → List (Addr × Obj) → Prop} {s₁ : Shared} {h' : Heap} {tk : Nat} {m' : Str → Option Value} {full : List (Addr × Obj)} (news' : List (Addr × Obj)) (F : Fr h₀ L h' m') (N : News h₀ L h' full) (hI : (I, o) ∈ full) (hs : ∀ p ∈ news', p ∈ full) (hn : ∀ p ∈ news', p.1 ≠ I) (hJ : J m' news') : EndN h₀ L I o J s₁ .next { s₁ with heap := h', toks := tk } :=
  ⟨_, _, _, _, _, rfl, F, N, hI, hs, hn, hJ⟩
/-- what follows, made opaque -/
theorem opq {α : Type} {prog : Program} {w : World} {A : Around} {m : Sem α} {Q : α → Shared → Prop} {E : Value → Shared → Prop} {s : Shared} (h : ∀ (Q' : α → Shared → Prop), (∀ v s, Q v s → Q' v s) → wpAny (model prog w) A m Q' E s) : wpAny (model prog w) A m Q E s := h Q fun _ _ q => q
section
variable {prog : Program} {w : World} {A : Around} {E : Value → Shared → Prop} {s : Shared} {env : Env} {h₀ : Heap} {x : Str} {target : Expr} {body : List Stmt} {Q : Flow → Shared → Prop} {m₀ : Str → Option Value} {news : List (Addr × Obj)}
theorem listN {l : Addr} {its : Array Value} (J : Nat → (Str → Option Value) → List (Addr × Obj) → Prop) (hh : A.handled = none) (F : Fr h₀ env.locals s.heap m₀) (N : News h₀ env.locals s.heap news)
    (cont : List (Addr × Obj)) (hl : s.heap.IsList l its) (hc : (∃ q, h₀.get? l = some q) ∨ l ∈ cont.map (·.1)) (hlL : @Ne Nat env.locals l) (hJc : ∀ i m ns, J i m ns → ∀ q ∈ cont, q ∈ ns) (h0 : J 0 m₀ news)
    (turn : ∀ (J' : Nat → (Str → Option Value) → List (Addr × Obj) → Prop), (∀ i m ns, J i m ns → J' i m ns) → ∀ (s0 : Shared) I i v m₁ news₁ o, i < its.size → its[i]? = some v → J i m₁ news₁ → (∀ p ∈ news₁, @Ne Nat p.1 I) → Fr h₀ env.locals s0.heap (fun y => if y = x then some v else m₁ y) → News h₀ env.locals s0.heap ((I, o) :: news₁) →
      wpAny (model prog w) A (execs body env) (EndN h₀ env.locals I o (J' (i + 1)) s0) E s0)
    (done : ∀ m' news' h' tk, J its.size m' news' → Fr h₀ env.locals h' m' → News h₀ env.locals h' news' → Q .next { s with heap := h', toks := tk }) :
    wpAny (model prog w) A (pyIter (.ref l)) (fun it s₂ => LoopAtV prog w A h₀ env x body Q E it s₂) E s :=
  listK J hh F N cont hl hc hlL hJc h0 (fun I i v m₁ news₁ h tk o hi hv hJ hne F1 N1 => wpAny_mono (turn J (fun _ _ _ q => q) _ I i v m₁ news₁ o hi hv hJ hne F1 N1) (fun _ _ q => q.to) fun _ _ e => e) done
theorem tupleN {l : Addr} {its : Array Value} (J : Nat → (Str → Option Value) → List (Addr × Obj) → Prop) (hh : A.handled = none) (F : Fr h₀ env.locals s.heap m₀) (N : News h₀ env.locals s.heap news)
    (cont : List (Addr × Obj)) (hl : s.heap.IsTuple l its) (hc : (∃ q, h₀.get? l = some q) ∨ l ∈ cont.map (·.1)) (hlL : @Ne Nat env.locals l) (hJc : ∀ i m ns, J i m ns → ∀ q ∈ cont, q ∈ ns) (h0 : J 0 m₀ news)
    (turn : ∀ (J' : Nat → (Str → Option Value) → List (Addr × Obj) → Prop), (∀ i m ns, J i m ns → J' i m ns) → ∀ (s0 : Shared) I i v m₁ news₁ o, i < its.size → its[i]? = some v → J i m₁ news₁ → (∀ p ∈ news₁, @Ne Nat p.1 I) → Fr h₀ env.locals s0.heap (fun y => if y = x then some v else m₁ y) → News h₀ env.locals s0.heap ((I, o) :: news₁) →
      wpAny (model prog w) A (execs body env) (EndN h₀ env.locals I o (J' (i + 1)) s0) E s0)
    (done : ∀ m' news' h' tk, J its.size m' news' → Fr h₀ env.locals h' m' → News h₀ env.locals h' news' → Q .next { s with heap := h', toks := tk }) :
    wpAny (model prog w) A (pyIter (.ref l)) (fun it s₂ => LoopAtV prog w A h₀ env x body Q E it s₂) E s :=
  tupleK J hh F N cont hl hc hlL hJc h0 (fun I i v m₁ news₁ h tk o hi hv hJ hne F1 N1 => wpAny_mono (turn J (fun _ _ _ q => q) _ I i v m₁ news₁ o hi hv hJ hne F1 N1) (fun _ _ q => q.to) fun _ _ e => e) done
theorem rangeN {n : Nat} {t : Tok} (J : Nat → (Str → Option Value) → List (Addr × Obj) → Prop) (hh : A.handled = none) (F : Fr h₀ env.locals s.heap m₀) (N : News h₀ env.locals s.heap news) (hn : n ≤ 1000000) (h0 : J 0 m₀ news)
    (turn : ∀ (J' : Nat → (Str → Option Value) → List (Addr × Obj) → Prop), (∀ i m ns, J i m ns → J' i m ns) → ∀ (s0 : Shared) I i t m₁ news₁ o, i < n → J i m₁ news₁ → (∀ p ∈ news₁, @Ne Nat p.1 I) → Fr h₀ env.locals s0.heap (fun y => if y = x then some (.int (i : Int) t) else m₁ y) → News h₀ env.locals s0.heap ((I, o) :: news₁) →
      wpAny (model prog w) A (execs body env) (EndN h₀ env.locals I o (J' (i + 1)) s0) E s0)
    (done : ∀ m' news' h' tk, J n m' news' → Fr h₀ env.locals h' m' → News h₀ env.locals h' news' → Q .next { s with heap := h', toks := tk }) :
    wpAny (model prog w) A (call (.type "range") [.int (n : Int) t]) (fun r s₁ => wpAny (model prog w) A (pyIter r) (fun it s₂ => LoopAtV prog w A h₀ env x body Q E it s₂) E s₁) E s :=
  rangeK J hh F N hn h0 (fun I i t m₁ news₁ _ _ o hi hJ hne F1 N1 => wpAny_mono (turn J (fun _ _ _ q => q) _ I i t m₁ news₁ o hi hJ hne F1 N1) (fun _ _ q => q.to) fun _ _ e => e) done
theorem loopN {I : Addr} {fp : List Addr} {n : Nat} {P : Nat → Value → Prop} {St : Nat → Heap → Prop}
    {cont : List (Addr × Obj)} (J : Nat → (Str → Option Value) → List (Addr × Obj) → Prop) (W : Walks prog w A I fp [I] n P St) (hIf : I ∈ fp) (hfp : ∀ b ∈ fp, b = I ∨ (∃ q, h₀.get? b = some q) ∨ b ∈ cont.map (·.1)) (hI0 : h₀.get? I = none)
    (hob : ∀ i h, St i h → ∃ o, h.get? I = some o) (hJc : ∀ i m ns, J i m ns → ∀ q ∈ cont, q ∈ ns) (hLf : env.locals ∉ fp) (hnw : ∀ p ∈ news, p.1 ≠ I) (hst : St 0 s.heap) (F : Fr h₀ env.locals s.heap m₀) (N : News h₀ env.locals s.heap news) (h0 : J 0 m₀ news)
    (turn : ∀ (J' : Nat → (Str → Option Value) → List (Addr × Obj) → Prop), (∀ i m ns, J i m ns → J' i m ns) → ∀ (s0 : Shared) i v m₁ news₁ o, i < n → P i v → J i m₁ news₁ → (∀ p ∈ news₁, p.1 ≠ I) → Fr h₀ env.locals s0.heap (fun y => if y = x then some v else m₁ y) → News h₀ env.locals s0.heap ((I, o) :: news₁) →
      wpAny (model prog w) A (execs body env) (EndN h₀ env.locals I o (J' (i + 1)) s0) E s0)
    (done : ∀ m' news' h' tk, J n m' news' → Fr h₀ env.locals h' m' → News h₀ env.locals h' news' → Q .next { s with heap := h', toks := tk }) :
    LoopAtV prog w A h₀ env x body Q E (.ref I) s :=
  loopK J W hIf hfp hI0 hob hJc hLf hnw hst F N h0 (fun i v m₁ news₁ _ _ o hi hP hJ hne F1 N1 => wpAny_mono (turn J (fun _ _ _ q => q) _ i v m₁ news₁ o hi hP hJ hne F1 N1) (fun _ _ q => q.to) fun _ _ e => e) done
theorem listTN {l : Addr} {its : Array Value} (J : Nat → (Str → Option Value) → List (Addr × Obj) → Prop) (hh : A.handled = none) (F : Fr h₀ env.locals s.heap m₀) (N : News h₀ env.locals s.heap news)
    (cont : List (Addr × Obj)) (hl : s.heap.IsList l its) (hc : (∃ q, h₀.get? l = some q) ∨ l ∈ cont.map (·.1)) (hlL : @Ne Nat env.locals l) (hJc : ∀ i m ns, J i m ns → ∀ q ∈ cont, q ∈ ns) (h0 : J 0 m₀ news)
    (turn : ∀ (J' : Nat → (Str → Option Value) → List (Addr × Obj) → Prop), (∀ i m ns, J i m ns → J' i m ns) → ∀ (s0 : Shared) I i v m₁ news₁ o, i < its.size → its[i]? = some v → J i m₁ news₁ → (∀ p ∈ news₁, @Ne Nat p.1 I) → Fr h₀ env.locals s0.heap m₁ → News h₀ env.locals s0.heap ((I, o) :: news₁) →
      wpAny (model prog w) A (assign target env v) (fun _ s₃ => wpAny (model prog w) A (execs body env) (EndN h₀ env.locals I o (J' (i + 1)) s0) E s₃) E s0)
    (done : ∀ m' news' h' tk, J its.size m' news' → Fr h₀ env.locals h' m' → News h₀ env.locals h' news' → Q .next { s with heap := h', toks := tk }) :
    wpAny (model prog w) A (pyIter (.ref l)) (fun it s₂ => TurnsAt prog w A h₀ env target body Q E it s₂) E s :=
  listT J hh F N cont hl hc hlL hJc h0 (fun I i v m₁ news₁ h tk o hi hv hJ hne F1 N1 => wpAny_mono (turn J (fun _ _ _ q => q) _ I i v m₁ news₁ o hi hv hJ hne F1 N1) (fun _ _ q => wpAny_mono q (fun _ _ q => q.to) fun _ _ e => e) fun _ _ e => e) done
end
end
end Mine

namespace Mine
section
open PySem PySem.W PyProof.Rows PySem.Calls
theorem nodup_not_take {α β : Type} {f : α → β} {l : List α} (nd : (l.map f).Nodup) {i : Nat} {r : α} (h : l[i]? = some r) : f r ∉ (l.take i).map f := by
  intro hm
  obtain ⟨a, ha, e⟩ := List.mem_map.mp hm
  obtain ⟨j, hj⟩ := List.mem_iff_getElem?.mp ha
  obtain ⟨hi, hi2⟩ := List.getElem?_eq_some_iff.mp h
  have hjl := (List.getElem?_eq_some_iff.mp hj).1
  rw [List.length_take] at hjl
  rw [List.getElem?_take_of_lt (by omega)] at hj
  have h1 : (l.map f)[j]? = some (f r) := by rw [List.getElem?_map, hj, ← e]; rfl
  have h2 : (l.map f)[i]? = some (f r) := by rw [List.getElem?_map, h]; rfl
  have := (List.getElem?_inj (by rw [List.length_map]; omega) nd).mp (h1.trans h2.symm)
  omega
theorem set_inS {prog : Program} {w : World} {A : Around} {E : Value → Shared → Prop} {s : Shared} {h₀ : Heap} {L a : Addr} {news : List (Addr × Obj)} {so : Obj} {S : Str → Bool} {n : Nat} {y : Str} {t : Tok} {b : Bool} {Q : Value → Shared → Prop} (N : News h₀ L s.heap news) (hm : (a, so) ∈ news) (hso : so.SetObjOf (PySem.strKind prog w) S n) (hb : n < scanBound) (hS : S y = b)
    (h : Q (.bool b) { s with toks := s.toks + 1 }) : wpAny (model prog w) A (compareOp .In (.str y t) (.ref a)) Q E s :=
  wpAny_inSet_of (knd := PySem.strKind prog w) (strKind_is _ _ _ _) rfl (hso.setOf (N _ hm).1 hb) (by rw [hS]; exact h)
section
variable {prog : Program} {w : World} {A : Around} {E : Value → Shared → Prop} {s : Shared} {env : Env} {h₀ : Heap} {x : Str} {target : Expr} {body : List Stmt} {Q : Flow → Shared → Prop} {m₀ : Str → Option Value} {news : List (Addr × Obj)}
theorem dictK {l : Addr} {o : Obj} {kvs : List (Str × Value)} (J : Nat → (Str → Option Value) → List (Addr × Obj) → Prop) (hh : A.handled = none) (F : Fr h₀ env.locals s.heap m₀) (N : News h₀ env.locals s.heap news)
    (ho : o.IsDictOf (PySem.strKind prog w) kvs) (lo : (l == sysModules) = false) (hm : (l, o) ∈ news) (hJc : ∀ i m ns, J i m ns → (l, o) ∈ ns) (h0 : J 0 m₀ news)
    (turn : ∀ I i y t m₁ news₁ h tk oI, i < kvs.length → (kvs.map (·.1))[i]? = some y → J i m₁ news₁ → (∀ p ∈ news₁, @Ne Nat p.1 I) → Fr h₀ env.locals h (fun z => if z = x then some (.str y t) else m₁ z) → News h₀ env.locals h ((I, oI) :: news₁) →
      wpAny (model prog w) A (execs body env) (EndK h₀ env.locals I oI (J (i + 1)) { s with heap := h, toks := tk } Q) E { s with heap := h, toks := tk })
    (done : ∀ m' news' h' tk, J kvs.length m' news' → Fr h₀ env.locals h' m' → News h₀ env.locals h' news' → Q .next { s with heap := h', toks := tk }) :
    wpAny (model prog w) A (pyIter (.ref l)) (fun it s₂ => LoopAtV prog w A h₀ env x body Q E it s₂) E s := by
  have hlm := N _ hm
  obtain ⟨ep, hat⟩ := KdkAt.of ho
  have hlt := Heap.lt_size hlm.1
  refine wpAny_pyIter_dict lo (hat.dictAt hlm.1) ?_
  have hfr : ({ cls := .type "dict_keyiterator", data := .fields #[.ref l, .int 0 0, .int kvs.length 0, .int ep 0] } : Obj).isFreed = false := rfl
  obtain ⟨F2, N2, l2⟩ := newsPush F N _ hfr
  refine loopK (n := kvs.length) (cont := [(l, o)]) J (Walks.dictKeys (knd := PySem.strKind prog w) hh _ l (Nat.ne_of_lt hlt) kvs ep) (.head _) ?_ (N2 _ (.head _)).2.2 ?_ ?_ ?_ (fun q hq => Nat.ne_of_lt (l2 q hq)) ?_ F2 (fun q hq => N2 q (.tail _ hq)) h0 ?_ ?_
  · intro b hb
    rcases List.mem_cons.mp hb with e | hb
    · exact .inl e
    · exact .inr (.inr (by rw [List.mem_singleton.mp hb]; exact .head _))
  · rintro i hh2 ⟨⟨o, ho, _⟩, _⟩; exact ⟨o, ho⟩
  · intro i m ns hJ q hq
    rw [List.mem_singleton.mp hq]; exact hJc i m ns hJ
  · intro hm
    rcases List.mem_cons.mp hm with e | hm
    · exact (N2 _ (.head _)).2.1 e.symm
    · exact hlm.2.1 (List.mem_singleton.mp hm).symm
  · exact ⟨⟨_, (N2 _ (.head _)).1, rfl, rfl⟩, hat.dictAt (Heap.get?_push_of_some _ hlm.1)⟩
  · rintro i v m₁ news₁ h tk2 o2 hi ⟨y, z, hy, hk⟩ hJ hne FF NN
    obtain ⟨t, rfl⟩ := Value.isStrOf_shape hk
    exact turn _ i y t m₁ news₁ h tk2 o2 hi (by rw [List.getElem?_map, hy]; rfl) hJ hne FF NN
  · intro m' news' h2 tk2 hJ FF NN
    exact done m' news' h2 tk2 hJ FF NN
end
end
end Mine

namespace Mine
section
open PySem PySem.W PyProof.Rows PySem.Calls
section
variable {prog : Program} {w : World} {A : Around} {E : Value → Shared → Prop} {s : Shared} {env : Env} {h₀ : Heap} {x : Str} {target : Expr} {body : List Stmt} {Q : Flow → Shared → Prop} {m₀ : Str → Option Value} {news : List (Addr × Obj)}
theorem dictN {l : Addr} {o : Obj} {kvs : List (Str × Value)} (J : Nat → (Str → Option Value) → List (Addr × Obj) → Prop) (hh : A.handled = none) (F : Fr h₀ env.locals s.heap m₀) (N : News h₀ env.locals s.heap news)
    (ho : o.IsDictOf (PySem.strKind prog w) kvs) (lo : (l == sysModules) = false) (hm : (l, o) ∈ news) (hJc : ∀ i m ns, J i m ns → (l, o) ∈ ns) (h0 : J 0 m₀ news)
    (turn : ∀ (J' : Nat → (Str → Option Value) → List (Addr × Obj) → Prop), (∀ i m ns, J i m ns → J' i m ns) → ∀ (s0 : Shared) I i y t m₁ news₁ oI, i < kvs.length → (kvs.map (·.1))[i]? = some y → J i m₁ news₁ → (∀ p ∈ news₁, @Ne Nat p.1 I) → Fr h₀ env.locals s0.heap (fun z => if z = x then some (.str y t) else m₁ z) → News h₀ env.locals s0.heap ((I, oI) :: news₁) →
      wpAny (model prog w) A (execs body env) (EndN h₀ env.locals I oI (J' (i + 1)) s0) E s0)
    (done : ∀ m' news' h' tk, J kvs.length m' news' → Fr h₀ env.locals h' m' → News h₀ env.locals h' news' → Q .next { s with heap := h', toks := tk }) :
    wpAny (model prog w) A (pyIter (.ref l)) (fun it s₂ => LoopAtV prog w A h₀ env x body Q E it s₂) E s :=
  dictK J hh F N ho lo hm hJc h0 (fun I i y t m₁ news₁ _ _ oI hi hy hJ hne F1 N1 => wpAny_mono (turn J (fun _ _ _ q => q) _ I i y t m₁ news₁ oI hi hy hJ hne F1 N1) (fun _ _ q => q.to) fun _ _ e => e) done
end
end
end Mine

namespace Mine
section
open PySem.Calls
local macro_rules | `(tactic| walk_at "m_plain") => `(tactic| (
  (case k6 => k_is)
  (case k7 => k_is)
  (case k8 => exact Rm.room (by assumption))
  (case k9 => exact BindsTo.of_eq rfl)
  (case kB => exact locs rfl)
  (case c5 => decide)
  (case c2 => exact rfl)
  (case c3 => exact rfl)
  (case c4 => exact rfl)))
local macro_rules | `(tactic| walk_at "m_cells") => `(tactic| (
  (case k6 => k_is)
  (case k7 => k_is)
  (case k8 => exact Rm.room (by assumption))
  (case k9 => exact rfl)
  (case kB => exact rfl)
  (case kD => decide +kernel)
  (case c2 => exact rfl)
  (case c3 => exact rfl)
  (case c4 => exact rfl)))

section
open PySem PySem.W PyProof.Rows PySem.Calls
theorem fill_F1 (w : World) : PySem.Challenge.rw_rt0101_01 = PySem.Challenge.rw_rt0101_01 ∨ Mine.hd.heap_1 w.params = [] := by
  k_fill
  exact Or.inl rfl

set_option maxHeartbeats 4000000 in
theorem div2n1n_spec {prog : Program} {w : World} {A : Around} {E : Value → Shared → Prop} {s : Shared} {p : Program} {loose : List Str} {mean : ExcName → Option Value} {mg mb : Str → Option Value} {H0 : Heap}
    (rm : Rm A 3) (G : Gnd w p loose mean mg mb H0) (k : H0.StaysIn s.heap)
    {a b n : Int} {ta tb tn : Tok} {Q : Value → Shared → Prop} (hb : 0 < b) (hb9 : b.natAbs.log2 < 9000) (hbits : (Builtin.Int.intBits a : Int) - n ≤ 4000)
    (h : ∀ h' tk r t1 t2, s.heap.StaysIn h' → s.heap.objs.size ≤ r → h'.get? r = some { cls := .type "tuple", data := .seq #[.int (a.fdiv b) t1, .int (a.fmod b) t2] } → Q (.ref r) { s with heap := h', toks := tk }) :
    wpAny (model prog w) A (call (.ref 28) [.int a ta, .int b tb, .int n tn] []) Q E s := by
  obtain ⟨hd, d, fr, gs, u⟩ := A
  obtain rfl : hd = none := rm.hh
  refine wpAny_call ?_
  w_on
  refine' enter_plain (M := []) (binds := [(Str.ofString "a", Value.int a ta), (Str.ofString "b", Value.int b tb), (Str.ofString "n", Value.int n tn)]) G k ?k6 ?k7 ?k8 (fun _ q => nomatch q) (fun _ q => nomatch q) ?k9 ?kB ?_ ?c5 ?c2 ?c3 ?c4
  walk_at "m_plain"
  intro L' h' g' hL hg kg F' N'
  obtain ⟨X', T', C1', C2'⟩ := G.keeps kg
  have hb0 : b ≠ 0 := by omega
  dsimp only
  k_steps
  refine divmod_N (by assumption) (by assumption) hb0 ?_ (Or.inl (PyProof.noPylong_of_log2 hb9))
  intro h2 F2 N2
  k_steps
  dsimp only
  subst hg
  exact h _ _ _ _ _ F2.keep (Nat.le_of_lt (Nat.lt_of_le_of_lt (Nat.le_of_eq hL.symm) F'.ns.lt)) (N2 _ (.head _)).1
end

section
open PySem.Calls
local macro_rules | `(tactic| walk_at "m_rest") => `(tactic| (
  (case k6 => k_is)
  (case k7 => k_is)
  (case k8 => exact Rm.room (by assumption))
  (case kP => exact rfl)
  (case kG => exact fun _ => rfl)
  (case kB => exact fun _ => locs rfl)
  (case c5 => decide)
  (case c2 => exact rfl)
  (case c3 => exact rfl)
  (case c4 => exact rfl)))
local macro_rules | `(tactic| walk_at "call ref") => `(tactic| (k_here; (with_reducible show wpAny _ _ (call (Value.ref _) _ _) _ _ _); refine stop_it ?_))
local macro_rules | `(tactic| k_ne) => `(tactic| (refine neN ?_; with_reducible (first | assumption | exact Ne.symm (by assumption) | exact Nat.ne_of_lt (by assumption) | exact Nat.ne_of_gt (by assumption))))
local macro_rules | `(tactic| k_all) => `(tactic| ((with_reducible refine' List.forall_mem_cons.mpr ⟨?ka, ?kb⟩); (case ka => k_ne); (case kb => k_all)))
local macro_rules | `(tactic| k_all) => `(tactic| with_reducible assumption)
local macro_rules | `(tactic| walk_at "m_mem") => `(tactic| with_reducible (first | assumption | exact List.mem_cons_self | (refine List.mem_cons_of_mem _ ?_; walk_at "m_mem") | (refine List.mem_append_left _ ?_; walk_at "m_mem") | (refine List.mem_append_right _ ?_; walk_at "m_mem")))
local macro_rules | `(tactic| walk_at "m_sub") => `(tactic| (repeat' (with_reducible first | exact sub_nil | refine sub_cons ?_ ?_ | refine sub_app ?_ ?_ | (intro q hq; walk_at "m_mem") | walk_at "m_mem")))
local macro_rules | `(tactic| walk_at "m_fa") => `(tactic| (repeat' (with_reducible first | exact fa_nil | refine fa_cons ?_ ?_ | refine fa_app ?_ ?_)))
local macro_rules | `(tactic| walk_at "subscriptTail") => `(tactic| (k_here; (with_reducible show wpAny _ _ (subscriptTail _ _ (Value.ref _) (Value.str _ _)) _ _ _); refine kda_item (knd := PySem.strKind _ _) (by k_asm) (by k_mem) (by k_asm) (strKind_is _ _ _ _) (by assumption) ?_))
local macro_rules | `(tactic| walk_at "call builtin:dict.get") => `(tactic| (k_here; refine kdg_get1 (knd := PySem.strKind _ _) (by k_asm) (by k_mem) (by k_asm) (by k_asm) (strKind_is _ _ _ _) _ (by assumption) ?_; (try dsimp only [Option.getD])))

section
open PySem PySem.W PyProof.Rows PySem.Calls
theorem fill_F2a (w : World) : PySem.Challenge.rw_rt0101_01 = PySem.Challenge.rw_rt0101_01 ∨ Mine.hd.heap_1 w.params = [] := by
  k_fill
  exact Or.inl rfl

local macro_rules | `(tactic| walk_at "binaryOp RShift int int") => `(tactic| (refine stop_it ?_))
local macro_rules | `(tactic| walk_at "binaryOp LShift int int") => `(tactic| (refine stop_it ?_))
local macro_rules | `(tactic| walk_at "binaryOp Mult int int") => `(tactic| (refine stop_it ?_))
local macro_rules | `(tactic| walk_at "binaryOp BitXor int int") => `(tactic| (refine stop_it ?_))
noncomputable def iSig (w : World) : PSigma fun (q : Arguments × List Stmt × Scope × Pos) =>
  ∃ oc od name params s1 s3 s4 scope pm cd doc osl, (Mine.hd.heap_1 w.params).lookup 42 = some ⟨oc, od, .func (docDef name params [s1, .FunctionDef (Str.ofString "inner") q.1 q.2.1 [] none [] q.2.2.1 none (Str.ofString "inner") q.2.2.2, s3, s4] scope pm cd doc), osl⟩ :=
  ⟨(_, _, _, _), ⟨_, _, _, _, _, _, _, _, _, _, _, _, by k_is⟩⟩

structure Clo (w : World) (H0 h : Heap) (f c' l ca ci cn : Addr) (n : Nat) (qual : Str) (doc pm ctv : Value) : Prop where
  hf : h.get? f = some (fnMade (Str.ofString "inner") qual (iSig w).1.1 (iSig w).1.2.1 (iSig w).1.2.2.1 [(Str.ofString "n", cn), (Str.ofString "inner", ci), (Str.ofString "a_digits", ca)] doc pm c' ctv)
  hc : ∃ oc vs t, h.get? c' = some oc ∧ oc.data = .fields vs ∧ vs[1]? = some (.str qual t)
  hca : ∃ o, h.get? ca = some o ∧ o.data = .cell (some (.ref l))
  hci : ∃ o, h.get? ci = some o ∧ o.data = .cell (some (.ref f))
  hcn : ∃ o t, h.get? cn = some o ∧ o.data = .cell (some (.int n t))
  nf : H0.get? f = none
  nc : H0.get? c' = none
  nca : H0.get? ca = none
  nci : H0.get? ci = none
  ncn : H0.get? cn = none

theorem mid_facts {L R c m : Nat} (hLR : L < R) (hc : R - L = c) (hn : (L : Int) + 1 ≠ R) (hm : m = (L + R) / 2) : c ≠ 1 ∧ L < m ∧ m < R := by
  have h1 : L + 1 ≠ R := fun e => hn (by rw [← e]; rfl)
  have h2 : L + 1 + 1 ≤ R := Nat.lt_of_le_of_ne hLR h1
  refine ⟨fun e => h1 ?_, ?_, ?_⟩
  · rw [← Nat.sub_add_cancel (Nat.le_of_lt hLR), hc, e, Nat.add_comm]
  · rw [hm]; exact (Nat.le_div_iff_mul_le (by decide)).mpr (by rw [Nat.mul_two]; show L + 1 + (L + 1) ≤ L + R; rw [Nat.add_assoc, Nat.add_comm 1 (L + 1)]; exact Nat.add_le_add_left h2 L)
  · rw [hm]; exact Nat.div_lt_of_lt_mul (by rw [Nat.two_mul]; exact Nat.add_lt_add_right hLR R)
theorem split_facts {L R m c c1 c2 k : Nat} (hc : R - L = c) (h1 : L < m) (h2 : m < R) (hR : R ≤ k) (e1 : c1 = m - L) (e2 : c2 = R - m) : c = c1 + c2 ∧ c1 < c ∧ c2 < c ∧ c1 ≤ k ∧ c2 ≤ k ∧ c ≤ k ∧ m ≤ k := by
  subst hc e1 e2
  have h3 : R - L = (m - L) + (R - m) := by rw [Nat.add_comm, Nat.sub_add_sub_cancel (Nat.le_of_lt h2) (Nat.le_of_lt h1)]
  have h4 : 0 < m - L := Nat.sub_pos_of_lt h1
  have h5 : 0 < R - m := Nat.sub_pos_of_lt h2
  have h6 : R - L ≤ k := Nat.le_trans (Nat.sub_le _ _) hR
  have h7 : m - L < R - L := by rw [h3]; exact Nat.lt_add_of_pos_right h5
  have h8 : R - m < R - L := by rw [h3]; exact Nat.lt_add_of_pos_left h4
  exact ⟨h3, h7, h8, Nat.le_trans (Nat.le_of_lt h7) h6, Nat.le_trans (Nat.le_of_lt h8) h6, h6, Nat.le_trans (Nat.le_of_lt h2) hR⟩
theorem sub64 {m L R k : Nat} (h1 : L < m) (h2 : m < R) (hR : R ≤ k) (hk : k ≤ 1000000) : -(2 ^ 64) < (m : Int) - L ∧ (m : Int) - L < 2 ^ 64 := by omega
theorem len3 {L c1 m k : Nat} (h1 : L < m) (h2 : m ≤ k) (e : c1 = m - L) : L + c1 + (k - m) = k := by rw [e, Nat.add_sub_cancel' (Nat.le_of_lt h1), Nat.add_sub_cancel' h2]
theorem fit63 {L R k : Nat} (h : L < R) (hR : R ≤ k) (hk : k ≤ 1000000) : (L : Int) < k ∧ (L : Int) < 2 ^ 63 := by omega
theorem add2 {b s : Int} {m n : Nat} (h1 : b ≤ (m : Int)) (h2 : s ≤ (n : Int)) (hm : m ≤ 1000000) (hn : n ≤ 1000000) : b + s ≤ 2000000 := by omega
set_option maxHeartbeats 4000000 in
theorem inner_spec {prog : Program} {w : World} {p : Program} {loose : List Str} {mean : ExcName → Option Value} {mg mb : Str → Option Value} {H0 : Heap} (G : Gnd w p loose mean mg mb H0)
    {f c' l ca ci cn : Addr} {n : Nat} {qual : Str} {doc pm ctv : Value} (hn : 0 < n) (nl : H0.get? l = none) : ∀ (c : Nat) {A : Around} {E : Value → Shared → Prop} {s : Shared} {Q : Value → Shared → Prop} {vs : List Value} {ds : List Int} {ep L R x : Nat} {Li Ri xi : Int} {tx tL tR : Tok},
    Rm A (c + 5) → H0.StaysIn s.heap → Clo w H0 s.heap f c' l ca ci cn n qual doc pm ctv → s.heap.get? l = some (W.listOf vs.toArray ep) → IntsAre vs ds → n * ds.length ≤ 1000000 → L < R → R ≤ ds.length → R - L = c → x < 2 ^ (n * c) → xi = x → Li = L → Ri = R →
    (∀ h' tk vs', (∀ b o, b ≠ l → s.heap.get? b = some o → h'.get? b = some o) → h'.get? l = some (W.listOf vs'.toArray ep) → IntsAre vs' (ds.take L ++ dg x n c ++ ds.drop R) → Q .none { s with heap := h', toks := tk }) →
    wpAny (model prog w) A (call (.ref f) [.int xi tx, .int Li tL, .int Ri tR] []) Q E s := by
  intro c
  induction c using Nat.strongRecOn with
  | ind c ih =>
  intro A E s Q vs ds ep L R x Li Ri xi tx tL tR rm k C hl hvs hsz hLR hR hc hx exi eL eR hQ
  subst exi eL eR
  obtain ⟨hd, d, fr, gs, u⟩ := A
  obtain rfl : hd = none := rm.hh
  obtain ⟨hf, ⟨oc, cvs, ct, hc1, hc2, hc3⟩, ⟨oa, ha1, ha2⟩, ⟨oi, hi1, hi2⟩, ⟨on, tn, hn1, hn2⟩, nf, nc, nca, nci, ncn⟩ := C
  have d1 : @Ne Nat l ca := ne_of_data hl ha1 (by rw [ha2]; nofun)
  have d2 : @Ne Nat l ci := ne_of_data hl hi1 (by rw [hi2]; nofun)
  have d3 : @Ne Nat l cn := ne_of_data hl hn1 (by rw [hn2]; nofun)
  have d4 : @Ne Nat l f := ne_of_data hl hf (by nofun)
  have d5 : @Ne Nat l c' := ne_of_data hl hc1 (by rw [hc2]; nofun)
  have hds : ds.length ≤ 1000000 := Nat.le_trans (Nat.le_mul_of_pos_left _ hn) hsz
  obtain ⟨hlen, hfit⟩ := fit63 hLR hR hds
  simp only [iSig] at hf
  refine wpAny_call ?_
  w_on
  refine' enter_fn (fo := ?fo) (M := [(l, W.listOf vs.toArray ep), (ca, oa), (ci, oi), (cn, on), (f, ?fo), (c', oc)]) (binds := [(Str.ofString "x", Value.int x tx), (Str.ofString "L", Value.int L tL), (Str.ofString "R", Value.int R tR)]) (G.T.keeps k).nolimit k hf rfl ⟨c', oc, cvs, ct, rfl, hc1, hc2, hc3⟩ rm.room ?kM ?kn (BindsTo.of_eq rfl) (locs rfl) ?_ (by decide) rfl rfl rfl
  case kM => exact List.forall_mem_cons.mpr ⟨hl, List.forall_mem_cons.mpr ⟨ha1, List.forall_mem_cons.mpr ⟨hi1, List.forall_mem_cons.mpr ⟨hn1, List.forall_mem_cons.mpr ⟨hf, List.forall_mem_singleton.mpr hc1⟩⟩⟩⟩⟩
  case kn => exact List.forall_mem_cons.mpr ⟨nl, List.forall_mem_cons.mpr ⟨nca, List.forall_mem_cons.mpr ⟨nci, List.forall_mem_cons.mpr ⟨ncn, List.forall_mem_cons.mpr ⟨nf, List.forall_mem_singleton.mpr nc⟩⟩⟩⟩⟩
  intro L' h' g' hL hg kg F' N'
  obtain ⟨X', T', C1', C2'⟩ := G.keeps kg
  dsimp only
  k_steps
  · dsimp only
    refine hQ _ _ _ (kept_but hg (List.forall_mem_cons.mpr ⟨ha1, List.forall_mem_cons.mpr ⟨hi1, List.forall_mem_cons.mpr ⟨hn1, List.forall_mem_cons.mpr ⟨hf, List.forall_mem_singleton.mpr hc1⟩⟩⟩⟩) (by assumption) (fun q hq => News.get (by assumption) (.tail _ hq))) (News.get (by assumption) (.head _)) ?_
    have e0 : (L : Int) + 1 = (R : Int) := by assumption
    obtain rfl : L + 1 = R := Int.ofNat.inj e0
    obtain rfl : 1 = c := by rw [← hc, Nat.add_sub_cancel_left]
    rw [dg_one (by simpa using hx), ← set_split ds L x hR]
    assumption
  · unfold Stop
    refine PyProof.Rows.rshift_int (by decide) ?_
    rw [mid_is]
    obtain ⟨m, hm⟩ : ∃ m, m = (L + R) / 2 := ⟨_, rfl⟩
    rw [← hm]
    obtain ⟨hcc, hLm, hmR⟩ := mid_facts hLR hc (by assumption) hm
    clear hm
    k_steps
    unfold Stop
    refine PyProof.Rows.mul_int ?_ (IntMulOk.of_left (PySem.intBits_le_64 (sub64 hLm hmR hR hds).1 (sub64 hLm hmR hR hds).2))
    obtain ⟨c1, hc1'⟩ : ∃ c1, c1 = m - L := ⟨_, rfl⟩
    obtain ⟨c2, hc2'⟩ : ∃ c2, c2 = R - m := ⟨_, rfl⟩
    obtain ⟨ec, lc1, lc2, kc1, kc2, kc, hml⟩ := split_facts hc hLm hmR hR hc1' hc2'
    have esh : ((m : Int) - (L : Int)) * (n : Int) = ((n * c1 : Nat) : Int) := by
      rw [hc1', Nat.mul_comm, Int.natCast_mul, Int.natCast_sub (Nat.le_of_lt hLm)]
    rw [esh]
    have hsh : n * c1 ≤ 1000000 := Nat.le_trans (Nat.mul_le_mul_left n kc1) hsz
    have hnc : n * c2 ≤ 1000000 := Nat.le_trans (Nat.mul_le_mul_left n kc2) hsz
    k_steps
    unfold Stop
    refine PyProof.Rows.rshift_int (Int.natCast_nonneg _) ?_
    rw [shr_is]
    k_steps
    unfold Stop
    have hup : x / 2 ^ (n * c1) < 2 ^ (n * c2) := by
      rw [Nat.div_lt_iff_lt_mul (Nat.two_pow_pos _), ← Nat.pow_add, ← Nat.mul_add, Nat.add_comm c2 c1, ← ec]; exact hx
    refine PyProof.Rows.lshift_int (Int.natCast_nonneg _) ?_ ?_
    · have b1 := bits_le hup
      clear hx hc hlen hfit hc1' hc2' ec lc1 lc2 kc1 kc2 kc hml hLm hmR hLR hR hds hup d1 d2 d3 d4 d5 hcc
      omega
    rw [Int.toNat_natCast]
    k_steps
    unfold Stop
    refine PyProof.Rows.xor_int ?_
    rw [xor_low]
    k_steps
    unfold Stop
    rename Fr _ _ _ _ => F3
    rename News _ _ _ _ => N3
    have hlow : x % 2 ^ (n * c1) < 2 ^ (n * c1) := Nat.mod_lt _ (Nat.two_pow_pos _)
    have C3 : Clo w H0 _ f c' l ca ci cn n qual doc pm ctv := ⟨News.get N3 (.tail _ (.tail _ (.tail _ (.tail _ (.head _))))), ⟨oc, cvs, ct, News.get N3 (.tail _ (.tail _ (.tail _ (.tail _ (.tail _ (.head _)))))), hc2, hc3⟩, ⟨oa, News.get N3 (.tail _ (.head _)), ha2⟩,
      ⟨oi, News.get N3 (.tail _ (.tail _ (.head _))), hi2⟩, ⟨on, tn, News.get N3 (.tail _ (.tail _ (.tail _ (.head _)))), hn2⟩, nf, nc, nca, nci, ncn⟩
    refine ih c1 lc1 (rm.less (Nat.add_lt_add_right lc1 5 : c1 + 5 + 1 ≤ c + 5)).deeper (fun b o e => F3.keep b o (kg b o e)) C3 (News.get N3 (.head _)) hvs hsz hLm hml hc1'.symm hlow rfl rfl rfl ?_
    intro h4 tk4 vs4 k4 hl4 i4
    obtain ⟨F4, N4⟩ := after_upd (pre := []) F3 N3 (fun _ q => nomatch q) (by k_all) k4 hl4
    rw [List.nil_append] at N4
    k_steps
    unfold Stop
    have hlen4 : (ds.take L ++ dg (x % 2 ^ (n * c1)) n c1 ++ ds.drop m).length = ds.length := by
      rw [List.length_append, List.length_append, List.length_take, Nat.min_eq_left (Nat.le_trans (Nat.le_of_lt hLm) hml), List.length_drop, dg_length]; exact len3 hLm hml hc1'
    have C4 : Clo w H0 h4 f c' l ca ci cn n qual doc pm ctv := ⟨News.get N4 (.tail _ (.tail _ (.tail _ (.tail _ (.head _))))), ⟨oc, cvs, ct, News.get N4 (.tail _ (.tail _ (.tail _ (.tail _ (.tail _ (.head _)))))), hc2, hc3⟩, ⟨oa, News.get N4 (.tail _ (.head _)), ha2⟩,
      ⟨oi, News.get N4 (.tail _ (.tail _ (.head _))), hi2⟩, ⟨on, tn, News.get N4 (.tail _ (.tail _ (.tail _ (.head _)))), hn2⟩, nf, nc, nca, nci, ncn⟩
    refine ih c2 lc2 (rm.less (Nat.add_lt_add_right lc2 5 : c2 + 5 + 1 ≤ c + 5)).deeper (fun b o e => F4.keep b o (kg b o e)) C4 hl4 i4 (by rw [hlen4]; exact hsz) hmR (by rw [hlen4]; exact hR) hc2'.symm hup rfl rfl rfl ?_
    intro h5 tk5 vs5 k5 hl5 i5
    obtain ⟨F5, N5⟩ := after_upd (pre := []) F4 N4 (fun _ q => nomatch q) (by k_all) k5 hl5
    rw [List.nil_append] at N5
    k_steps
    dsimp only
    refine hQ _ _ _ (kept_but hg (List.forall_mem_cons.mpr ⟨ha1, List.forall_mem_cons.mpr ⟨hi1, List.forall_mem_cons.mpr ⟨hn1, List.forall_mem_cons.mpr ⟨hf, List.forall_mem_singleton.mpr hc1⟩⟩⟩⟩) F5 (fun q hq => News.get N5 (.tail _ hq))) hl5 ?_
    rw [ec, dg_split, ← two_parts hLm hmR hR ((dg_length ..).trans hc1') ((dg_length ..).trans hc2')]
    exact i5
end

section
open PySem PySem.W PyProof.Rows PySem.Calls
theorem fill_F2 (w : World) : PySem.Challenge.rw_rt0101_01 = PySem.Challenge.rw_rt0101_01 ∨ Mine.hd.heap_1 w.params = [] := by
  k_fill
  exact Or.inl rfl
local macro_rules | `(tactic| walk_at "m_lt") => `(tactic| with_reducible (first | assumption | exact Nat.lt_succ_self _ | exact And.left (by assumption) | exact And.left (And.right (by assumption)) | exact And.left (And.right (And.right (by assumption))) | exact And.left (And.right (And.right (And.right (by assumption)))) | exact And.left (And.right (And.right (And.right (And.right (by assumption))))) | exact And.left (And.right (And.right (And.right (And.right (And.right (by assumption)))))) | exact And.right (And.right (And.right (And.right (by assumption)))) | (refine Nat.lt_succ_of_lt ?_; walk_at "m_lt")))
local macro_rules | `(tactic| k_ne) => `(tactic| (refine neN ?_; first | exact Nat.ne_of_lt (by walk_at "m_lt") | exact Nat.ne_of_gt (by walk_at "m_lt")))

local macro_rules | `(tactic| walk_at "binaryOp Mult ref int") => `(tactic| (refine stop_it ?_))
/-- the code table at P holds the one nested def's code -/
structure TabU (H0 h : Heap) (P : Addr) (pos : Pos) (qual : Str) (c : Addr) (o : Obj) : Prop where
  hP : h.get? P = some (tabObj #[rawInt pos.line, rawInt pos.col, .ref c])
  hc : h.get? c = some o
  hd : ∃ vs t, o.data = .fields vs ∧ vs[1]? = some (.str qual t)
  nc : H0.get? c = none
theorem TabU.keeps {H0 h h' : Heap} {P : Addr} {pos : Pos} {qual : Str} {c : Addr} {o : Obj} (x : TabU H0 h P pos qual c o) (k : h.StaysIn h') : TabU H0 h' P pos qual c o := ⟨k _ _ x.hP, k _ _ x.hc, x.hd, x.nc⟩
def qI : Str := Str.append (Str.append (Str.ofString "_int2digits") (Str.ofString ".<locals>.")) (Str.ofString "inner")

theorem nd_bounds {b n : Int} (hb : 0 ≤ b) (hb2 : b ≤ 5000) (hn : 0 < n) : 0 ≤ (b + n - 1).fdiv n ∧ (b + n - 1).fdiv n ≤ 5000 := by
  rw [Int.fdiv_eq_ediv_of_nonneg _ (Int.le_of_lt hn)]
  refine ⟨Int.ediv_nonneg (by omega) (by omega), ?_⟩
  refine Int.le_of_lt_add_one ((Int.ediv_lt_iff_lt_mul hn).mpr ?_)
  have h1 : (5000 + 1) * n = 5000 * n + n := by rw [Int.add_mul, Int.one_mul]
  have h2 : (5000 : Int) * 1 ≤ 5000 * n := Int.mul_le_mul_of_nonneg_left (by omega) (by omega)
  omega
theorem nd_nat (b n : Nat) (hn : 0 < n) : ((b : Int) + (n : Int) - 1).fdiv (n : Int) = (((b + n - 1) / n : Nat) : Int) := by
  rw [Int.fdiv_eq_ediv_of_nonneg _ (by omega)]
  have : (b : Int) + (n : Int) - 1 = ((b + n - 1 : Nat) : Int) := by omega
  rw [this]; simp

theorem c_pos {a n c : Nat} (hn : 0 < n) (ec : c = (Builtin.Int.intBits (a : Int) + n - 1) / n) (ha : 0 < a) : 0 < c := by
  have hb1 : 1 ≤ Builtin.Int.intBits (a : Int) := by
    unfold Builtin.Int.intBits
    rw [if_neg (by simp; omega)]
    exact Nat.le_add_left _ _
  rw [ec]
  exact Nat.div_pos (by rw [Nat.add_comm, Nat.add_sub_assoc hb1]; exact Nat.le_add_right _ _) hn
theorem c_zero {a n c : Nat} (hn : 0 < n) (ec : c = (Builtin.Int.intBits (a : Int) + n - 1) / n) (ea : a = 0) : c = 0 := by
  rw [ec, ea]
  exact Nat.div_eq_of_lt (by show 0 + n - 1 < n; rw [Nat.zero_add]; exact Nat.sub_lt hn Nat.zero_lt_one)
theorem c_bits {a n c : Nat} (hn : 0 < n) (ec : c = (Builtin.Int.intBits (a : Int) + n - 1) / n) : a < 2 ^ (n * c) := by
  have hcb : Builtin.Int.intBits (a : Int) ≤ n * c := by
    have h1 := Nat.div_add_mod (Builtin.Int.intBits (a : Int) + n - 1) n
    have h2 := Nat.mod_lt (Builtin.Int.intBits (a : Int) + n - 1) hn
    rw [← ec] at h1
    omega
  have := PySem.intBits_le_iff.mp hcb
  simpa using this
set_option maxHeartbeats 4000000 in
theorem int2digits_fresh {prog : Program} {w : World} {A : Around} {E : Value → Shared → Prop} {s : Shared} {p : Program} {loose : List Str} {mean : ExcName → Option Value} {mg mb : Str → Option Value} {H0 : Heap}
    (rm : Rm A 100) (G : Gnd w p loose mean mg mb H0) (k : H0.StaysIn s.heap) (hT : s.heap.get? 37 = some (tabObj #[]))
    {a n : Nat} {ta tn : Tok} {Q : Value → Shared → Prop} (hn : 0 < n) (hc9 : (Builtin.Int.intBits (a : Int) + n - 1) / n ≤ 80) (hn2 : n ≤ 10000)
    (h : ∀ h' tk r vs c' o', (∀ b o, b ≠ 37 → s.heap.get? b = some o → h'.get? b = some o) → TabU H0 h' 37 (iSig w).1.2.2.2 qI c' o' → s.heap.objs.size ≤ c' → s.heap.objs.size ≤ r → h'.get? r = some (W.listOf vs.toArray 0) → IntsAre vs (dg a n ((Builtin.Int.intBits (a : Int) + n - 1) / n)) → Q (.ref r) { s with heap := h', toks := tk }) :
    wpAny (model prog w) A (call (.ref 42) [.int a ta, .int n tn] []) Q E s := by
  obtain ⟨hd, d, fr, gs, u⟩ := A
  obtain rfl : hd = none := rm.hh
  refine wpAny_call ?_
  w_on
  have hnd := nd_nat (Builtin.Int.intBits (a : Int)) n hn
  obtain ⟨c, ec⟩ : ∃ c, c = (Builtin.Int.intBits (a : Int) + n - 1) / n := ⟨_, rfl⟩
  rw [← ec] at hnd h hc9
  have hx := c_bits hn ec
  have hcp := c_pos hn ec
  have hcz := c_zero hn ec
  clear ec
  refine' enter_cells (M := [(37, tabObj #[])]) (binds := [(Str.ofString "a", Value.int a ta), (Str.ofString "n", Value.int n tn)]) G k ?k6 ?k7 ?k8 (List.forall_mem_singleton.mpr hT) (List.forall_mem_singleton.mpr G.n2) ?k9 ?kB ?_ ?kD ?c2 ?c3 ?c4
  walk_at "m_cells"
  intro L' h' g' tk' cells' hL hg kg F' N' Y' l1
  obtain ⟨X', T', C1', C2'⟩ := G.keeps kg
  k_lt l1
  k_cells Y'
  simp only [List.cons_append, List.nil_append] at N'
  dsimp only
  k_steps
  unfold Stop
  rw [hnd]
  clear hnd
  refine KM.mul (by k_asm) (by k_asm) (by is_list) (by l_ints) (by omega) (by omega) (by simp only [List.length_cons, List.length_nil]; omega) ?_
  intro D' h2 F2 N2 l2 i1 n1 s1 e1 e2 e3
  k_lt l2
  simp only [List.length_cons, List.length_nil] at e3
  have e4 : n1 = c := by have := e3 (Int.natCast_nonneg _); omega
  rw [e4] at s1 e1
  k_steps
  · unfold Stop
    rename Fr _ _ _ _ => F3
    rename News _ _ _ _ => N3
    have hc1 : 0 < c := hcp (Nat.pos_of_ne_zero fun e => (by assumption : (a : Int) ≠ 0) (by rw [e]; rfl))
    refine' inner_spec (l := D') (ca := L' + 1 + 1) (ci := L' + 1 + 1 + 1) (cn := L' + 1) G hn ?nl c (L := 0) (R := c) (rm.less (Nat.le_trans (Nat.add_le_add_right hc9 6) (by decide) : c + 5 + 1 ≤ 100)).deeper (fun b o e => F3.keep b o (kg b o e)) ?C (News.get N3 (List.mem_of_getElem? (i := 2) rfl)) i1 ?sz hc1 ?R rfl hx rfl rfl rfl ?_
    case C => exact ⟨News.get N3 (.head _), ⟨_, _, _, News.get N3 (List.mem_of_getElem? (i := 1) rfl), by assumption, by assumption⟩, ⟨_, News.get N3 (List.mem_of_getElem? (i := 5) rfl), by assumption⟩,
      ⟨_, News.get N3 (List.mem_of_getElem? (i := 4) rfl), by assumption⟩, ⟨_, tn, News.get N3 (List.mem_of_getElem? (i := 6) rfl), by assumption⟩, fresh_of_stays kg (N3 _ (.head _)).2.2, fresh_of_stays kg (N3 _ (List.mem_of_getElem? (i := 1) rfl)).2.2,
      fresh_of_stays kg (N3 _ (List.mem_of_getElem? (i := 5) rfl)).2.2, fresh_of_stays kg (N3 _ (List.mem_of_getElem? (i := 4) rfl)).2.2, fresh_of_stays kg (N3 _ (List.mem_of_getElem? (i := 6) rfl)).2.2⟩
    case nl => exact fresh_of_stays kg (N3 _ (List.mem_of_getElem? (i := 2) rfl)).2.2
    case sz => rw [e1]; exact Nat.le_trans (Nat.mul_le_mul hn2 hc9) (by decide)
    case R => rw [e1]; exact Nat.le_refl _
    intro h4 tk4 vs4 k4 hl4 i4
    obtain ⟨F4, N4⟩ := after_upd (pre := [_, _]) F3 N3 (by first | k_all | fail) (by first | k_all | fail) k4 hl4
    simp only [List.cons_append, List.nil_append] at N4
    k_steps
    dsimp only
    refine h h4 tk4 D' vs4 _ _ (kept_but (rest := []) hg (fun _ q => nomatch q) F4 (fun _ q => nomatch q)) ⟨News.get N4 (List.mem_of_getElem? (i := 7) rfl), News.get N4 (List.mem_of_getElem? (i := 1) rfl), ⟨_, _, by assumption, by assumption⟩, fresh_of_stays kg (N4 _ (List.mem_of_getElem? (i := 1) rfl)).2.2⟩ (by omega) (by omega) hl4 ?_
    rw [List.take_zero, List.nil_append, List.drop_eq_nil_of_le (by rw [e1]; exact Nat.le_refl _), List.append_nil] at i4
    exact i4
  · dsimp only
    rename Fr _ _ _ _ => F3
    rename News _ _ _ _ => N3
    have ec0 : c = 0 := hcz (Int.ofNat.inj (show (a : Int) = ((0 : Nat) : Int) from by assumption))
    refine h _ _ D' _ _ _ (kept_but (rest := []) hg (fun _ q => nomatch q) F3 (fun _ q => nomatch q)) ⟨News.get N3 (List.mem_of_getElem? (i := 7) rfl), News.get N3 (List.mem_of_getElem? (i := 1) rfl), ⟨_, _, by assumption, by assumption⟩, fresh_of_stays kg (N3 _ (List.mem_of_getElem? (i := 1) rfl)).2.2⟩ (by omega) (by omega) (News.get N3 (List.mem_of_getElem? (i := 2) rfl)) ?_
    subst ec0
    exact i1
set_option maxHeartbeats 4000000 in
theorem int2digits_used {prog : Program} {w : World} {A : Around} {E : Value → Shared → Prop} {s : Shared} {p : Program} {loose : List Str} {mean : ExcName → Option Value} {mg mb : Str → Option Value} {H0 : Heap}
    (rm : Rm A 100) (G : Gnd w p loose mean mg mb H0) (k : H0.StaysIn s.heap) {c0 : Addr} {oc0 : Obj} (hT : TabU H0 s.heap 37 (iSig w).1.2.2.2 qI c0 oc0)
    {a n : Nat} {ta tn : Tok} {Q : Value → Shared → Prop} (hn : 0 < n) (hc9 : (Builtin.Int.intBits (a : Int) + n - 1) / n ≤ 80) (hn2 : n ≤ 10000)
    (h : ∀ h' tk r vs, s.heap.StaysIn h' → s.heap.objs.size ≤ r → h'.get? r = some (W.listOf vs.toArray 0) → IntsAre vs (dg a n ((Builtin.Int.intBits (a : Int) + n - 1) / n)) → Q (.ref r) { s with heap := h', toks := tk }) :
    wpAny (model prog w) A (call (.ref 42) [.int a ta, .int n tn] []) Q E s := by
  obtain ⟨hd, d, fr, gs, u⟩ := A
  obtain rfl : hd = none := rm.hh
  refine wpAny_call ?_
  w_on
  have hnd := nd_nat (Builtin.Int.intBits (a : Int)) n hn
  obtain ⟨c, ec⟩ : ∃ c, c = (Builtin.Int.intBits (a : Int) + n - 1) / n := ⟨_, rfl⟩
  rw [← ec] at hnd h hc9
  have hx := c_bits hn ec
  have hcp := c_pos hn ec
  have hcz := c_zero hn ec
  clear ec
  obtain ⟨hT, hc0, ⟨vs0, t0, hc1', hc2'⟩, nc0⟩ := hT
  simp only [iSig] at hT
  refine' enter_cells (M := [(37, _), (c0, oc0)]) (binds := [(Str.ofString "a", Value.int a ta), (Str.ofString "n", Value.int n tn)]) G k ?k6 ?k7 ?k8 (List.forall_mem_cons.mpr ⟨hT, List.forall_mem_singleton.mpr hc0⟩) (List.forall_mem_cons.mpr ⟨G.n2, List.forall_mem_singleton.mpr nc0⟩) ?k9 ?kB ?_ ?kD ?c2 ?c3 ?c4
  walk_at "m_cells"
  intro L' h' g' tk' cells' hL hg kg F' N' Y' l1
  obtain ⟨X', T', C1', C2'⟩ := G.keeps kg
  k_lt l1
  k_cells Y'
  simp only [List.cons_append, List.nil_append] at N'
  dsimp only
  k_steps
  unfold Stop
  rw [hnd]
  clear hnd
  refine KM.mul (by k_asm) (by k_asm) (by is_list) (by l_ints) (by omega) (by omega) (by simp only [List.length_cons, List.length_nil]; omega) ?_
  intro D' h2 F2 N2 l2 i1 n1 s1 e1 e2 e3
  k_lt l2
  simp only [List.length_cons, List.length_nil] at e3
  have e4 : n1 = c := by have := e3 (Int.natCast_nonneg _); omega
  rw [e4] at s1 e1
  k_steps
  · unfold Stop
    rename Fr _ _ _ _ => F3
    rename News _ _ _ _ => N3
    have hc1 : 0 < c := hcp (Nat.pos_of_ne_zero fun e => (by assumption : (a : Int) ≠ 0) (by rw [e]; rfl))
    refine' inner_spec (l := D') (ca := L' + 1 + 1) (ci := L' + 1 + 1 + 1) (cn := L' + 1) G hn ?nl c (L := 0) (R := c) (rm.less (Nat.le_trans (Nat.add_le_add_right hc9 6) (by decide) : c + 5 + 1 ≤ 100)).deeper (fun b o e => F3.keep b o (kg b o e)) ?C (News.get N3 (List.mem_of_getElem? (i := 1) rfl)) i1 ?sz hc1 ?R rfl hx rfl rfl rfl ?_
    case C => exact ⟨News.get N3 (.head _), ⟨_, _, _, News.get N3 (List.mem_of_getElem? (i := 7) rfl), hc1', hc2'⟩, ⟨_, News.get N3 (List.mem_of_getElem? (i := 4) rfl), by assumption⟩,
      ⟨_, News.get N3 (List.mem_of_getElem? (i := 3) rfl), by assumption⟩, ⟨_, tn, News.get N3 (List.mem_of_getElem? (i := 5) rfl), by assumption⟩, fresh_of_stays kg (N3 _ (.head _)).2.2, fresh_of_stays kg (N3 _ (List.mem_of_getElem? (i := 7) rfl)).2.2,
      fresh_of_stays kg (N3 _ (List.mem_of_getElem? (i := 4) rfl)).2.2, fresh_of_stays kg (N3 _ (List.mem_of_getElem? (i := 3) rfl)).2.2, fresh_of_stays kg (N3 _ (List.mem_of_getElem? (i := 5) rfl)).2.2⟩
    case nl => exact fresh_of_stays kg (N3 _ (List.mem_of_getElem? (i := 1) rfl)).2.2
    case sz => rw [e1]; exact Nat.le_trans (Nat.mul_le_mul hn2 hc9) (by decide)
    case R => rw [e1]; exact Nat.le_refl _
    intro h4 tk4 vs4 k4 hl4 i4
    obtain ⟨F4, N4⟩ := after_upd (pre := [_]) F3 N3 (by first | k_all | fail) (by first | k_all | fail) k4 hl4
    simp only [List.cons_append, List.nil_append] at N4
    k_steps
    dsimp only
    refine h h4 tk4 D' vs4 (kept_all hg (List.forall_mem_cons.mpr ⟨hT, List.forall_mem_singleton.mpr hc0⟩) F4 (List.forall_mem_cons.mpr ⟨News.get N4 (List.mem_of_getElem? (i := 6) rfl), List.forall_mem_singleton.mpr (News.get N4 (List.mem_of_getElem? (i := 7) rfl))⟩)) (by omega) hl4 ?_
    rw [List.take_zero, List.nil_append, List.drop_eq_nil_of_le (by rw [e1]; exact Nat.le_refl _), List.append_nil] at i4
    exact i4
  · dsimp only
    rename Fr _ _ _ _ => F3
    rename News _ _ _ _ => N3
    have ec0 : c = 0 := hcz (Int.ofNat.inj (show (a : Int) = ((0 : Nat) : Int) from by assumption))
    refine h _ _ D' _ (kept_all hg (List.forall_mem_cons.mpr ⟨hT, List.forall_mem_singleton.mpr hc0⟩) F3 (List.forall_mem_cons.mpr ⟨News.get N3 (List.mem_of_getElem? (i := 6) rfl), List.forall_mem_singleton.mpr (News.get N3 (List.mem_of_getElem? (i := 7) rfl))⟩)) (by omega) (News.get N3 (List.mem_of_getElem? (i := 1) rfl)) ?_
    subst ec0
    exact i1
end

section
open PySem PySem.W PyProof.Rows PySem.Calls
theorem fill_F3a (w : World) : PySem.Challenge.rw_rt0101_01 = PySem.Challenge.rw_rt0101_01 ∨ Mine.hd.heap_1 w.params = [] := by
  k_fill
  exact Or.inl rfl

local macro_rules | `(tactic| walk_at "binaryOp RShift int int") => `(tactic| (refine stop_it ?_))
local macro_rules | `(tactic| walk_at "binaryOp LShift int int") => `(tactic| (refine stop_it ?_))
local macro_rules | `(tactic| walk_at "binaryOp Mult int int") => `(tactic| (refine stop_it ?_))
noncomputable def jSig (w : World) : PSigma fun (q : Arguments × List Stmt × Scope × Pos) =>
  ∃ oc od name params s2 scope pm cd doc osl, (Mine.hd.heap_1 w.params).lookup 49 = some ⟨oc, od, .func (docDef name params [.FunctionDef (Str.ofString "inner") q.1 q.2.1 [] none [] q.2.2.1 none (Str.ofString "inner") q.2.2.2, s2] scope pm cd doc), osl⟩ :=
  ⟨(_, _, _, _), ⟨_, _, _, _, _, _, _, _, _, _, by k_is⟩⟩
def qJ : Str := Str.append (Str.append (Str.ofString "_digits2int") (Str.ofString ".<locals>.")) (Str.ofString "inner")

structure Clj (w : World) (H0 h : Heap) (f c' l ca ci cn : Addr) (n : Nat) (qual : Str) (doc pm ctv : Value) : Prop where
  hf : h.get? f = some (fnMade (Str.ofString "inner") qual (jSig w).1.1 (jSig w).1.2.1 (jSig w).1.2.2.1 [(Str.ofString "n", cn), (Str.ofString "inner", ci), (Str.ofString "digits", ca)] doc pm c' ctv)
  hc : ∃ oc vs t, h.get? c' = some oc ∧ oc.data = .fields vs ∧ vs[1]? = some (.str qual t)
  hca : ∃ o, h.get? ca = some o ∧ o.data = .cell (some (.ref l))
  hci : ∃ o, h.get? ci = some o ∧ o.data = .cell (some (.ref f))
  hcn : ∃ o t, h.get? cn = some o ∧ o.data = .cell (some (.int n t))
  nf : H0.get? f = none
  nc : H0.get? c' = none
  nca : H0.get? ca = none
  nci : H0.get? ci = none
  ncn : H0.get? cn = none

/-- the number of the digits, the lowest first -/
def vl (n : Nat) : List Int → Int
  | [] => 0
  | d :: r => d + 2 ^ n * vl n r
theorem vl_append (n : Nat) : ∀ a b : List Int, vl n (a ++ b) = vl n a + 2 ^ (n * a.length) * vl n b
  | [], b => by simp [vl]
  | d :: r, b => by
    rw [List.cons_append, vl, vl, vl_append n r b, List.length_cons, Nat.mul_add, Nat.mul_one, Int.pow_add, Int.mul_add, Int.add_assoc, ← Int.mul_assoc, Int.mul_comm (2 ^ n) (2 ^ (n * r.length))]
theorem vl_bounds (n : Nat) : ∀ a : List Int, (∀ d ∈ a, 0 ≤ d ∧ d < 2 ^ n) → 0 ≤ vl n a ∧ vl n a < 2 ^ (n * a.length)
  | [], _ => by simp [vl]
  | d :: r, h => by
    obtain ⟨h1, h2⟩ := h d (.head _)
    obtain ⟨h3, h4⟩ := vl_bounds n r fun x hx => h x (.tail _ hx)
    have hp : (0 : Int) < 2 ^ n := Int.pow_pos (by decide)
    rw [vl, List.length_cons, Nat.mul_add, Nat.mul_one, Int.pow_add, Int.mul_comm (2 ^ (n * r.length))]
    refine ⟨Int.add_nonneg h1 (Int.mul_nonneg (Int.le_of_lt hp) h3), ?_⟩
    have h5 : 2 ^ n * (vl n r + 1) ≤ 2 ^ n * 2 ^ (n * r.length) := Int.mul_le_mul_of_nonneg_left (by omega) (Int.le_of_lt hp)
    rw [Int.mul_add, Int.mul_one] at h5
    omega
theorem slice_split {ds : List Int} {L m R : Nat} (h1 : L ≤ m) (h2 : m ≤ R) : (ds.take R).drop L = (ds.take m).drop L ++ (ds.take R).drop m := by
  have e : ds.take m = (ds.take R).take m := by rw [List.take_take]; congr 1; omega
  rw [e]
  have : (ds.take R).drop L = (((ds.take R).take m) ++ ((ds.take R).drop m)).drop L := by rw [List.take_append_drop]
  rw [this, List.drop_append]
  by_cases hm : m ≤ (ds.take R).length
  · rw [List.length_take (i := m), Nat.min_eq_left hm, show L - m = 0 by omega, List.drop_zero]
  · have e3 : (ds.take R).drop m = [] := List.drop_eq_nil_of_le (by omega)
    rw [e3, List.drop_nil]
theorem slice_one {ds : List Int} {L : Nat} (h : L < ds.length) : (ds.take (L + 1)).drop L = [ds.getD L 0] := by
  rw [List.take_succ_eq_append_getElem h, List.drop_append, List.length_take, Nat.min_eq_left (by omega), Nat.sub_self, List.drop_zero, List.drop_eq_nil_of_le (by simp; omega)]
  simp [h]
theorem slice_len {ds : List Int} {L R : Nat} (h : R ≤ ds.length) : ((ds.take R).drop L).length = R - L := by rw [List.length_drop, List.length_take, Nat.min_eq_left h]

set_option maxHeartbeats 4000000 in
theorem inner2_spec {prog : Program} {w : World} {p : Program} {loose : List Str} {mean : ExcName → Option Value} {mg mb : Str → Option Value} {H0 : Heap} (G : Gnd w p loose mean mg mb H0)
    {f c' l ca ci cn : Addr} {n ep : Nat} {qual : Str} {doc pm ctv : Value} {vs : List Value} {ds : List Int} (hvs : IntsAre vs ds) (hn : 0 < n) (hsz : n * ds.length ≤ 1000000) (hds : ∀ d ∈ ds, 0 ≤ d ∧ d < 2 ^ n) : ∀ (c : Nat) {A : Around} {E : Value → Shared → Prop} {s : Shared} {Q : Value → Shared → Prop} {L R : Nat} {Li Ri : Int} {tL tR : Tok},
    Rm A (c + 5) → H0.StaysIn s.heap → Clj w H0 s.heap f c' l ca ci cn n qual doc pm ctv → s.heap.get? l = some (W.listOf vs.toArray ep) → L < R → R ≤ ds.length → R - L = c → Li = L → Ri = R →
    (∀ h' tk t, s.heap.StaysIn h' → Q (.int (vl n ((ds.take R).drop L)) t) { s with heap := h', toks := tk }) →
    wpAny (model prog w) A (call (.ref f) [.int Li tL, .int Ri tR] []) Q E s := by
  intro c
  induction c using Nat.strongRecOn with
  | ind c ih =>
  intro A E s Q L R Li Ri tL tR rm k C hl hLR hR hc eL eR hQ
  subst eL eR
  obtain ⟨hd, d, fr, gs, u⟩ := A
  obtain rfl : hd = none := rm.hh
  obtain ⟨hf, ⟨oc, cvs, ct, hc1, hc2, hc3⟩, ⟨oa, ha1, ha2⟩, ⟨oi, hi1, hi2⟩, ⟨on, tn, hn1, hn2⟩, nf, nc, nca, nci, ncn⟩ := C
  have d1 : @Ne Nat l ca := ne_of_data hl ha1 (by rw [ha2]; nofun)
  have d2 : @Ne Nat l ci := ne_of_data hl hi1 (by rw [hi2]; nofun)
  have d3 : @Ne Nat l cn := ne_of_data hl hn1 (by rw [hn2]; nofun)
  have d4 : @Ne Nat l f := ne_of_data hl hf (by nofun)
  have d5 : @Ne Nat l c' := ne_of_data hl hc1 (by rw [hc2]; nofun)
  have hle : ds.length ≤ 1000000 := Nat.le_trans (Nat.le_mul_of_pos_left _ hn) hsz
  obtain ⟨hlen, hfit⟩ := fit63 hLR hR hle
  simp only [jSig] at hf
  refine wpAny_call ?_
  w_on
  have hM : ∀ q ∈ [(ca, oa), (ci, oi), (cn, on), (f, _), (c', oc)], s.heap.get? q.1 = some q.2 := List.forall_mem_cons.mpr ⟨ha1, List.forall_mem_cons.mpr ⟨hi1, List.forall_mem_cons.mpr ⟨hn1, List.forall_mem_cons.mpr ⟨hf, List.forall_mem_singleton.mpr hc1⟩⟩⟩⟩
  refine' enter_fn (fo := ?fo) (M := [(ca, oa), (ci, oi), (cn, on), (f, ?fo), (c', oc)]) (binds := [(Str.ofString "L", Value.int L tL), (Str.ofString "R", Value.int R tR)]) (G.T.keeps k).nolimit k hf rfl ⟨c', oc, cvs, ct, rfl, hc1, hc2, hc3⟩ rm.room hM ?kn (BindsTo.of_eq rfl) (locs rfl) ?_ (by decide) rfl rfl rfl
  case kn => exact List.forall_mem_cons.mpr ⟨nca, List.forall_mem_cons.mpr ⟨nci, List.forall_mem_cons.mpr ⟨ncn, List.forall_mem_cons.mpr ⟨nf, List.forall_mem_singleton.mpr nc⟩⟩⟩⟩
  intro L' h' g' hL hg kg F' N'
  obtain ⟨X', T', C1', C2'⟩ := G.keeps kg
  have gl : g'.IsList l vs.toArray := by
    rw [hg]
    exact ⟨_, hideAll_get _ hl (by simp [d1, d2, d3, d4, d5]), rfl, ep, rfl⟩
  dsimp only
  have CN : ∀ {h}, News g' L' h [(ca, oa), (ci, oi), (cn, on), (f, _), (c', oc)] → Clj w H0 h f c' l ca ci cn n qual doc pm ctv := fun N3 => ⟨News.get N3 (List.mem_of_getElem? (i := 3) rfl), ⟨oc, cvs, ct, News.get N3 (List.mem_of_getElem? (i := 4) rfl), hc2, hc3⟩, ⟨oa, News.get N3 (List.mem_of_getElem? (i := 0) rfl), ha2⟩,
      ⟨oi, News.get N3 (List.mem_of_getElem? (i := 1) rfl), hi2⟩, ⟨on, tn, News.get N3 (List.mem_of_getElem? (i := 2) rfl), hn2⟩, nf, nc, nca, nci, ncn⟩
  have hval : ∀ {L R : Nat}, R ≤ ds.length → 0 ≤ vl n ((ds.take R).drop L) ∧ vl n ((ds.take R).drop L) < 2 ^ (n * (R - L)) := fun {L R} hR => by
    have := vl_bounds n ((ds.take R).drop L) fun x hx => hds x (List.mem_of_mem_take (List.mem_of_mem_drop hx))
    rwa [slice_len hR] at this
  k_steps
  · dsimp only
    have e0 : (L : Int) + 1 = (R : Int) := by assumption
    obtain rfl : L + 1 = R := Int.ofNat.inj e0
    have e2 := slice_one (ds := ds) (L := L) hR
    have e3 : vl n ((ds.take (L + 1)).drop L) = ds.getD (L : Int).toNat 0 := by rw [e2]; simp [vl]
    rw [← e3]
    exact hQ _ _ _ (kept_all hg hM (by assumption) fun q hq => News.get (by assumption) hq)
  · unfold Stop
    refine PyProof.Rows.rshift_int (by decide) ?_
    rw [mid_is]
    obtain ⟨m, hm⟩ : ∃ m, m = (L + R) / 2 := ⟨_, rfl⟩
    rw [← hm]
    obtain ⟨hcc, hLm, hmR⟩ := mid_facts hLR hc (by assumption) hm
    clear hm
    k_steps
    unfold Stop
    refine PyProof.Rows.mul_int ?_ (IntMulOk.of_left (PySem.intBits_le_64 (sub64 hLm hmR hR hle).1 (sub64 hLm hmR hR hle).2))
    obtain ⟨c1, hc1'⟩ : ∃ c1, c1 = m - L := ⟨_, rfl⟩
    obtain ⟨c2, hc2'⟩ : ∃ c2, c2 = R - m := ⟨_, rfl⟩
    obtain ⟨ec, lc1, lc2, kc1, kc2, kc, hml⟩ := split_facts hc hLm hmR hR hc1' hc2'
    have esh : ((m : Int) - (L : Int)) * (n : Int) = ((n * c1 : Nat) : Int) := by
      rw [hc1', Nat.mul_comm, Int.natCast_mul, Int.natCast_sub (Nat.le_of_lt hLm)]
    rw [esh]
    have hsh : n * c1 ≤ 1000000 := Nat.le_trans (Nat.mul_le_mul_left n kc1) hsz
    have hnc2 : n * c2 ≤ 1000000 := Nat.le_trans (Nat.mul_le_mul_left n kc2) hsz
    k_steps
    unfold Stop
    rename Fr _ _ _ _ => F3
    rename News _ _ _ _ => N3
    refine ih c2 lc2 (rm.less (Nat.add_lt_add_right lc2 5 : c2 + 5 + 1 ≤ c + 5)).deeper (fun b o e => F3.keep b o (kg b o e)) (CN N3) (F3.keep _ _ (by rw [hg]; exact hideAll_get _ hl (by simp [d1, d2, d3, d4, d5]))) hmR hR hc2'.symm rfl rfl ?_
    intro h4 tk4 t4 k4
    have F4 := F3.keeps k4
    have N4 := N3.grown k4
    k_steps
    unfold Stop
    refine PyProof.Rows.lshift_int (Int.natCast_nonneg _) ?_ ?_
    · have b1 := hval (L := m) hR
      rw [← hc2'] at b1
      have b2 : Builtin.Int.intBits (vl n ((ds.take R).drop m)) ≤ n * c2 := PySem.intBits_le_iff.mpr (by
        have : (((vl n ((ds.take R).drop m)).natAbs : Nat) : Int) < ((2 ^ (n * c2) : Nat) : Int) := by
          rw [Int.natAbs_of_nonneg b1.1]; simpa using b1.2
        exact Int.ofNat_lt.mp this)
      clear hc hlen hfit hc1' hc2' ec lc1 lc2 kc1 kc2 kc hml hLm hmR hLR hR hle d1 d2 d3 d4 d5 hcc b1
      omega
    rw [Int.toNat_natCast]
    k_steps
    unfold Stop
    refine ih c1 lc1 (rm.less (Nat.add_lt_add_right lc1 5 : c1 + 5 + 1 ≤ c + 5)).deeper (fun b o e => F4.keep b o (kg b o e)) (CN N4) (F4.keep _ _ (by rw [hg]; exact hideAll_get _ hl (by simp [d1, d2, d3, d4, d5]))) hLm hml hc1'.symm rfl rfl ?_
    intro h5 tk5 t5 k5
    have F5 := F4.keeps k5
    have N5 := N4.grown k5
    k_steps
    dsimp only
    have ev : vl n ((ds.take R).drop m) * 2 ^ (n * c1) + vl n ((ds.take m).drop L) = vl n ((ds.take R).drop L) := by
      rw [slice_split (Nat.le_of_lt hLm) (Nat.le_of_lt hmR), vl_append, slice_len hml, ← hc1', Int.mul_comm (2 ^ (n * c1)), Int.add_comm]
    rw [ev]
    exact hQ _ _ _ (kept_all hg hM F5 fun q hq => News.get N5 hq)
end

section
open PySem PySem.W PyProof.Rows PySem.Calls
theorem fill_F3 (w : World) : PySem.Challenge.rw_rt0101_01 = PySem.Challenge.rw_rt0101_01 ∨ Mine.hd.heap_1 w.params = [] := by
  k_fill
  exact Or.inl rfl

set_option maxHeartbeats 4000000 in
theorem digits2int_fresh {prog : Program} {w : World} {A : Around} {E : Value → Shared → Prop} {s : Shared} {p : Program} {loose : List Str} {mean : ExcName → Option Value} {mg mb : Str → Option Value} {H0 : Heap}
    (rm : Rm A 100) (G : Gnd w p loose mean mg mb H0) (k : H0.StaysIn s.heap) (hT : s.heap.get? 44 = some (tabObj #[]))
    {n l ep : Nat} {vs : List Value} {ds : List Int} {tn : Tok} {Q : Value → Shared → Prop} (hn : 0 < n) (hl : s.heap.get? l = some (W.listOf vs.toArray ep)) (hvs : IntsAre vs ds) (hlen : ds.length ≤ 80) (hsz : n * ds.length ≤ 1000000) (hds : ∀ d ∈ ds, 0 ≤ d ∧ d < 2 ^ n)
    (h : ∀ h' tk t c' o', (∀ b o, b ≠ 44 → s.heap.get? b = some o → h'.get? b = some o) → TabU H0 h' 44 (jSig w).1.2.2.2 qJ c' o' → s.heap.objs.size ≤ c' → Q (.int (vl n ds) t) { s with heap := h', toks := tk }) :
    wpAny (model prog w) A (call (.ref 49) [.ref l, .int n tn] []) Q E s := by
  obtain ⟨hd, d, fr, gs, u⟩ := A
  obtain rfl : hd = none := rm.hh
  refine wpAny_call ?_
  w_on
  refine' enter_cells (M := [(44, tabObj #[])]) (binds := [(Str.ofString "digits", Value.ref l), (Str.ofString "n", Value.int n tn)]) G k ?k6 ?k7 ?k8 (List.forall_mem_singleton.mpr hT) (List.forall_mem_singleton.mpr G.n1) ?k9 ?kB ?_ ?kD ?c2 ?c3 ?c4
  walk_at "m_cells"
  intro L' h' g' tk' cells' hL hg kg F' N' Y' l1
  obtain ⟨X', T', C1', C2'⟩ := G.keeps kg
  have gl0 : g'.get? l = some (W.listOf vs.toArray ep) := by
    rw [hg]
    exact hideAll_get _ hl (by
      intro q
      rw [List.map_cons, List.map_nil, List.mem_singleton] at q
      rw [q, hT] at hl; cases hl)
  have gl : g'.IsList l vs.toArray := ⟨_, gl0, rfl, ep, rfl⟩
  k_lt l1
  k_cells Y'
  simp only [List.cons_append, List.nil_append] at N'
  dsimp only
  k_steps
  · unfold Stop
    rename Fr _ _ _ _ => F3
    rename News _ _ _ _ => N3
    refine' inner2_spec (l := l) (ca := L' + 1) (ci := L' + 1 + 1 + 1) (cn := L' + 1 + 1) (n := n) (ep := ep) G hvs hn hsz hds ds.length (L := 0) (R := ds.length) (rm.less (by omega : ds.length + 5 + 1 ≤ 100)).deeper (fun b o e => F3.keep b o (kg b o e)) ?C (F3.keep _ _ gl0) (by omega) (Nat.le_refl _) rfl rfl rfl ?_
    case C => exact ⟨News.get N3 (.head _), ⟨_, _, _, News.get N3 (List.mem_of_getElem? (i := 1) rfl), by assumption, by assumption⟩, ⟨_, News.get N3 (List.mem_of_getElem? (i := 4) rfl), by assumption⟩,
      ⟨_, News.get N3 (List.mem_of_getElem? (i := 2) rfl), by assumption⟩, ⟨_, tn, News.get N3 (List.mem_of_getElem? (i := 3) rfl), by assumption⟩, fresh_of_stays kg (N3 _ (.head _)).2.2, fresh_of_stays kg (N3 _ (List.mem_of_getElem? (i := 1) rfl)).2.2,
      fresh_of_stays kg (N3 _ (List.mem_of_getElem? (i := 4) rfl)).2.2, fresh_of_stays kg (N3 _ (List.mem_of_getElem? (i := 2) rfl)).2.2, fresh_of_stays kg (N3 _ (List.mem_of_getElem? (i := 3) rfl)).2.2⟩
    intro h4 tk4 t4 k4
    have F4 := F3.keeps k4
    have N4 := N3.grown k4
    k_steps
    dsimp only
    rw [List.take_length, List.drop_zero]
    exact h _ _ _ _ _ (kept_but (rest := []) hg (fun _ q => nomatch q) F4 (fun _ q => nomatch q)) ⟨News.get N4 (List.mem_of_getElem? (i := 5) rfl), News.get N4 (List.mem_of_getElem? (i := 1) rfl), ⟨_, _, by assumption, by assumption⟩, fresh_of_stays kg (N4 _ (List.mem_of_getElem? (i := 1) rfl)).2.2⟩ (by omega)
  · dsimp only
    rename Fr _ _ _ _ => F3
    rename News _ _ _ _ => N3
    have ed : ds = [] := List.length_eq_zero_iff.mp (by omega)
    subst ed
    exact h _ _ _ _ _ (kept_but (rest := []) hg (fun _ q => nomatch q) F3 (fun _ q => nomatch q)) ⟨News.get N3 (List.mem_of_getElem? (i := 5) rfl), News.get N3 (List.mem_of_getElem? (i := 1) rfl), ⟨_, _, by assumption, by assumption⟩, fresh_of_stays kg (N3 _ (List.mem_of_getElem? (i := 1) rfl)).2.2⟩ (by omega)
set_option maxHeartbeats 4000000 in
theorem digits2int_used {prog : Program} {w : World} {A : Around} {E : Value → Shared → Prop} {s : Shared} {p : Program} {loose : List Str} {mean : ExcName → Option Value} {mg mb : Str → Option Value} {H0 : Heap}
    (rm : Rm A 100) (G : Gnd w p loose mean mg mb H0) (k : H0.StaysIn s.heap) {c0 : Addr} {oc0 : Obj} (hT : TabU H0 s.heap 44 (jSig w).1.2.2.2 qJ c0 oc0)
    {n l ep : Nat} {vs : List Value} {ds : List Int} {tn : Tok} {Q : Value → Shared → Prop} (hn : 0 < n) (hl : s.heap.get? l = some (W.listOf vs.toArray ep)) (hvs : IntsAre vs ds) (hlen : ds.length ≤ 80) (hsz : n * ds.length ≤ 1000000) (hds : ∀ d ∈ ds, 0 ≤ d ∧ d < 2 ^ n)
    (h : ∀ h' tk t, s.heap.StaysIn h' → Q (.int (vl n ds) t) { s with heap := h', toks := tk }) :
    wpAny (model prog w) A (call (.ref 49) [.ref l, .int n tn] []) Q E s := by
  obtain ⟨hd, d, fr, gs, u⟩ := A
  obtain rfl : hd = none := rm.hh
  refine wpAny_call ?_
  w_on
  obtain ⟨hT, hc0, ⟨vs0, t0, hc1', hc2'⟩, nc0⟩ := hT
  simp only [jSig] at hT
  refine' enter_cells (M := [(44, _), (c0, oc0)]) (binds := [(Str.ofString "digits", Value.ref l), (Str.ofString "n", Value.int n tn)]) G k ?k6 ?k7 ?k8 (List.forall_mem_cons.mpr ⟨hT, List.forall_mem_singleton.mpr hc0⟩) (List.forall_mem_cons.mpr ⟨G.n1, List.forall_mem_singleton.mpr nc0⟩) ?k9 ?kB ?_ ?kD ?c2 ?c3 ?c4
  walk_at "m_cells"
  intro L' h' g' tk' cells' hL hg kg F' N' Y' l1
  obtain ⟨X', T', C1', C2'⟩ := G.keeps kg
  have gl0 : g'.get? l = some (W.listOf vs.toArray ep) := by
    rw [hg]
    exact hideAll_get _ hl (by
      intro q
      rw [List.map_cons, List.map_cons, List.map_nil, List.mem_cons, List.mem_singleton] at q
      rcases q with q | q
      · rw [q, hT] at hl; cases hl
      · rw [q, hc0] at hl; cases hl; cases hc1')
  have gl : g'.IsList l vs.toArray := ⟨_, gl0, rfl, ep, rfl⟩
  k_lt l1
  k_cells Y'
  simp only [List.cons_append, List.nil_append] at N'
  dsimp only
  k_steps
  · unfold Stop
    rename Fr _ _ _ _ => F3
    rename News _ _ _ _ => N3
    refine' inner2_spec (l := l) (ca := L' + 1) (ci := L' + 1 + 1 + 1) (cn := L' + 1 + 1) (n := n) (ep := ep) G hvs hn hsz hds ds.length (L := 0) (R := ds.length) (rm.less (by omega : ds.length + 5 + 1 ≤ 100)).deeper (fun b o e => F3.keep b o (kg b o e)) ?C (F3.keep _ _ gl0) (by omega) (Nat.le_refl _) rfl rfl rfl ?_
    case C => exact ⟨News.get N3 (.head _), ⟨_, _, _, News.get N3 (List.mem_of_getElem? (i := 5) rfl), hc1', hc2'⟩, ⟨_, News.get N3 (List.mem_of_getElem? (i := 3) rfl), by assumption⟩,
      ⟨_, News.get N3 (List.mem_of_getElem? (i := 1) rfl), by assumption⟩, ⟨_, tn, News.get N3 (List.mem_of_getElem? (i := 2) rfl), by assumption⟩, fresh_of_stays kg (N3 _ (.head _)).2.2, fresh_of_stays kg (N3 _ (List.mem_of_getElem? (i := 5) rfl)).2.2,
      fresh_of_stays kg (N3 _ (List.mem_of_getElem? (i := 3) rfl)).2.2, fresh_of_stays kg (N3 _ (List.mem_of_getElem? (i := 1) rfl)).2.2, fresh_of_stays kg (N3 _ (List.mem_of_getElem? (i := 2) rfl)).2.2⟩
    intro h4 tk4 t4 k4
    have F4 := F3.keeps k4
    have N4 := N3.grown k4
    k_steps
    dsimp only
    rw [List.take_length, List.drop_zero]
    exact h _ _ _ (kept_all hg (List.forall_mem_cons.mpr ⟨hT, List.forall_mem_singleton.mpr hc0⟩) F4 (List.forall_mem_cons.mpr ⟨News.get N4 (List.mem_of_getElem? (i := 4) rfl), List.forall_mem_singleton.mpr (News.get N4 (List.mem_of_getElem? (i := 5) rfl))⟩))
  · dsimp only
    rename Fr _ _ _ _ => F3
    rename News _ _ _ _ => N3
    have ed : ds = [] := List.length_eq_zero_iff.mp (by omega)
    subst ed
    exact h _ _ _ (kept_all hg (List.forall_mem_cons.mpr ⟨hT, List.forall_mem_singleton.mpr hc0⟩) F3 (List.forall_mem_cons.mpr ⟨News.get N3 (List.mem_of_getElem? (i := 4) rfl), List.forall_mem_singleton.mpr (News.get N3 (List.mem_of_getElem? (i := 5) rfl))⟩))
end

section
open PySem.Calls
local macro_rules | `(tactic| walk_at "exec For Name Call cons nil") => `(tactic| (refine stop_it ?_))
local macro_rules | `(tactic| walk_at "exec For Name Subscript cons nil") => `(tactic| (refine stop_it ?_))

section
open PySem PySem.W PyProof.Rows PySem.Calls
theorem fill_F4 (w : World) : PySem.Challenge.rw_rt0101_01 = PySem.Challenge.rw_rt0101_01 ∨ Mine.hd.heap_1 w.params = [] := by
  k_fill
  exact Or.inl rfl
local macro_rules | `(tactic| walk_at "exec For Name Name cons nil") => `(tactic| (refine stop_it ?_))
local macro_rules | `(tactic| walk_at "pyIter ref") => `(tactic| (refine stop_it ?_))

local macro_rules | `(tactic| walk_at "binaryOp LShift int int") => `(tactic| (refine stop_it ?_))
local macro_rules | `(tactic| walk_at "call builtin:list.reverse") => `(tactic| (refine stop_it ?_))
theorem ints_rev {vs : List Value} {ns : List Int} (h : IntsAre vs ns) : IntsAre vs.reverse ns.reverse := by
  induction h with
  | nil => exact .nil
  | cons i t h ih => rw [List.reverse_cons, List.reverse_cons]; exact IntsAre.append ih (.cons i t .nil)
theorem div_facts {b n R dd : Nat} (en : n = Builtin.Int.intBits (b : Int)) (hb : 0 < b) (hb9 : n ≤ 4000) (hRb : R < b) (hdd : dd < 2 ^ n) : Builtin.Int.intBits (R : Int) ≤ n ∧ (Builtin.Int.intBits (R : Int) : Int) + n ≤ 2 ^ 27 ∧ R * 2 ^ n + dd < b * 2 ^ n ∧ (b : Int).natAbs.log2 < 9000 ∧ (Builtin.Int.intBits (((R * 2 ^ n : Nat) : Int) + (dd : Int)) : Int) - n ≤ 4000 := by
  have hbn : b < 2 ^ n := by
    have := PySem.intBits_le_iff.mp (Nat.le_of_eq en.symm)
    simpa using this
  have hRn : Builtin.Int.intBits (R : Int) ≤ n := bits_le (Nat.lt_trans hRb hbn)
  have hlt : R * 2 ^ n + dd < b * 2 ^ n := Nat.lt_of_lt_of_le (Nat.add_lt_add_left hdd _) (by rw [← Nat.succ_mul]; exact Nat.mul_le_mul_right _ hRb)
  have hlt2 : R * 2 ^ n + dd < 2 ^ (n + n) := Nat.lt_of_lt_of_le hlt (by rw [Nat.pow_add]; exact Nat.mul_le_mul_right _ (Nat.le_of_lt hbn))
  have hb2 := bits_le hlt2
  rw [Int.natCast_add] at hb2
  have h2 := (Nat.log2_lt (Nat.ne_of_gt hb)).mpr hbn
  refine ⟨hRn, ?_, hlt, Nat.lt_of_lt_of_le h2 (Nat.le_trans hb9 (by decide)), ?_⟩
  · clear en hbn hlt2 hlt hdd hRb h2 hb2; omega
  · clear en hbn hlt2 hlt hdd hRb h2 hRn; omega
inductive JD (a b n c : Nat) (ql : Addr) (K : List (Addr × Obj)) (m0 : Str → Option Value) (i : Nat) (m : Str → Option Value) (ns : List (Addr × Obj)) : Prop
  | mk (tr : Tok) (uq ua : Option Value) (qvs : List Value) (qs : List Int) (ep : Nat) : m = (fun y => if y = Str.ofString "r" then some (.int ((a / 2 ^ (n * (c - i)) % b : Nat) : Int) tr) else if y = Str.ofString "q_digit" then uq else if y = Str.ofString "a_digit" then ua else m0 y) →
      ns = (ql, W.listOf qvs.toArray ep) :: K → IntsAre qvs qs → qs.length = i → (∀ q ∈ qs, 0 ≤ q ∧ q < 2 ^ n) → vl n qs.reverse = ((a / 2 ^ (n * (c - i)) / b : Nat) : Int) → JD a b n c ql K m0 i m ns
set_option maxHeartbeats 4000000 in
theorem divmod_gen {prog : Program} {w : World} {A : Around} {E : Value → Shared → Prop} {s : Shared} {p : Program} {loose : List Str} {mean : ExcName → Option Value} {mg mb : Str → Option Value} {H0 : Heap}
    (rm : Rm A 110) (G : Gnd w p loose mean mg mb H0) (k : H0.StaysIn s.heap) {M : List (Addr × Obj)} (P1 P2 : List (Addr × Obj) → Prop) (hM : ∀ q ∈ M, s.heap.get? q.1 = some q.2) (hMn : ∀ q ∈ M, H0.get? q.1 = none)
    {a b : Nat} {ta tb : Tok} {Q : Value → Shared → Prop} (hb : 0 < b) (hb9 : Builtin.Int.intBits (b : Int) ≤ 4000) (hc : (Builtin.Int.intBits (a : Int) + Builtin.Int.intBits (b : Int) - 1) / Builtin.Int.intBits (b : Int) ≤ 80)
    (call1 : ∀ {A' : Around} {E' Q' : Value → Shared → Prop} {s' : Shared} {g : Heap} {L : Addr} {m : Str → Option Value} {n : Nat} {ta tn : Tok}, Rm A' 100 → H0.StaysIn g → s.heap.objs.size ≤ s'.heap.objs.size → Fr g L s'.heap m → News g L s'.heap M → 0 < n → (Builtin.Int.intBits (a : Int) + n - 1) / n ≤ 80 → n ≤ 10000 →
      (∀ h' tk r vs tl, Fr g L h' m → News g L h' ((r, W.listOf vs.toArray 0) :: tl) → P1 tl → s'.heap.objs.size ≤ r → IntsAre vs (dg a n ((Builtin.Int.intBits (a : Int) + n - 1) / n)) → Q' (.ref r) { s' with heap := h', toks := tk }) →
      wpAny (model prog w) A' (call (.ref 42) [.int a ta, .int n tn] []) Q' E' s')
    (call2 : ∀ {A' : Around} {E' Q' : Value → Shared → Prop} {s' : Shared} {g : Heap} {L : Addr} {m : Str → Option Value} {n ep : Nat} {l r : Addr} {vs us : List Value} {tl : List (Addr × Obj)} {ds : List Int} {tn : Tok}, Rm A' 100 → H0.StaysIn g → s.heap.objs.size ≤ s'.heap.objs.size → Fr g L s'.heap m → News g L s'.heap ((l, W.listOf vs.toArray ep) :: (r, W.listOf us.toArray 0) :: tl) → P1 tl → 0 < n → IntsAre vs ds → ds.length ≤ 80 → n * ds.length ≤ 1000000 → (∀ d ∈ ds, 0 ≤ d ∧ d < 2 ^ n) →
      (∀ h' tk t tl', Fr g L h' m → News g L h' ((l, W.listOf vs.toArray ep) :: tl') → P2 tl' → Q' (.int (vl n ds) t) { s' with heap := h', toks := tk }) →
      wpAny (model prog w) A' (call (.ref 49) [.ref l, .int n tn] []) Q' E' s')
    (h : ∀ h' tk r u1 u2 g L m tl, g = hideAll s.heap (M.map (·.1)) → Fr g L h' m → News g L h' tl → P2 tl → s.heap.objs.size ≤ r → h'.get? r = some { cls := .type "tuple", data := .seq #[.int ((a / b : Nat) : Int) u1, .int ((a % b : Nat) : Int) u2] } → Q (.ref r) { s with heap := h', toks := tk }) :
    wpAny (model prog w) A (call (.ref 56) [.int a ta, .int b tb] []) Q E s := by
  obtain ⟨hd, d, fr, gs, u⟩ := A
  obtain rfl : hd = none := rm.hh
  refine wpAny_call ?_
  w_on
  refine' enter_plain (M := M) (binds := [(Str.ofString "a", Value.int a ta), (Str.ofString "b", Value.int b tb)]) G k ?k6 ?k7 ?k8 hM hMn ?k9 ?kB ?_ ?c5 ?c2 ?c3 ?c4
  walk_at "m_plain"
  intro L' h' g' hL hg kg F' N'
  obtain ⟨X', T', C1', C2'⟩ := G.keeps kg
  (try dsimp only)
  k_steps
  unfold Stop
  obtain ⟨n, en⟩ : ∃ n, n = Builtin.Int.intBits (b : Int) := ⟨_, rfl⟩
  rw [← en] at hb9 hc ⊢
  have hn : 0 < n := by
    rw [en]; unfold Builtin.Int.intBits
    rw [if_neg (by simp; omega)]; omega
  rename Fr _ _ _ _ => F3
  rename News _ _ _ _ => N3
  rw [← en] at F3
  have hLs : s.heap.objs.size ≤ L' := Nat.le_of_eq hL.symm
  refine call1 (rm.less (by decide : 101 ≤ 110)).deeper kg (Nat.le_of_lt (Nat.lt_of_le_of_lt hLs F3.ns.lt)) F3 N3 hn hc (Nat.le_trans hb9 (by decide)) ?_
  intro h4 tk4 r vs tl F4 N4 p1 le4 i4
  have sr : s.heap.objs.size ≤ r := Nat.le_trans (Nat.le_of_lt (Nat.lt_of_le_of_lt hLs F3.ns.lt)) le4
  clear F3 N3 le4
  obtain ⟨c, ec⟩ : ∃ c, c = (Builtin.Int.intBits (a : Int) + n - 1) / n := ⟨_, rfl⟩
  rw [← ec] at i4 hc
  have hlen : (dg a n c).length ≤ 80 := by rw [dg_length]; exact hc
  k_steps
  unfold Stop
  rename Addr => ql
  rename Fr _ _ _ _ => F5
  rename News _ _ _ _ => N5
  rename (r < ql ∧ _) => lrq
  have lq := fun q hq => Nat.ne_of_lt (allLt_mem lrq.2 q hq)
  have hqn0 : @Ne Nat ql r := Nat.ne_of_gt lrq.1
  with_unfolding_all refine' For_invVF F5 ?k1 ?k2 ?_
  case k1 => exact rfl
  case k2 => exact rfl
  k_steps
  unfold Stop
  rename Fr _ _ _ _ => F6
  rename News _ _ _ _ => N6
  rename (ql < _ ∧ r < _ ∧ _) => lD
  have hitD := News.get N6 (.head _)
  refine PySem.wpAny_pyIter_revIter (l := r) (i := (vs.length : Int) - 1) ⟨_, hitD, rfl, rfl⟩ ?_
  have hvl : vs.length = c := by rw [i4.length, dg_length]
  refine' loopN (m₀ := ?m) (fp := [_, r]) (n := vs.toArray.size) (cont := [(r, W.listOf vs.toArray 0)]) (JD a b n c ql ((r, W.listOf vs.toArray 0) :: tl) ?m)
    (Walks.listRev rfl _ r (Nat.ne_of_lt lD.2.1) vs.toArray) (.head _) ?hfp ?hI0 ?hob ?hJc ?hLf ?hnw ?hst F6 (fun q hq => N6 q (.tail _ hq)) ?h0 ?turn ?done
  case hfp =>
    intro b' hb'
    rcases List.mem_cons.mp hb' with e | hb'
    · exact .inl e
    · exact .inr (.inr (by rw [List.mem_singleton.mp hb']; exact .head _))
  case hI0 => exact (N6 _ (.head _)).2.2
  case hob =>
    rintro i hh ⟨_, ⟨o, ho, _⟩, _⟩
    exact ⟨o, ho⟩
  case hJc =>
    rintro i m ns ⟨tr, uq, ua, qvs, qs, ep, rfl, rfl, _⟩ q hq
    rw [List.mem_singleton.mp hq]; exact .tail _ (.head _)
  case hLf =>
    intro hm
    rcases List.mem_cons.mp hm with e | hm
    · exact (N6 _ (.head _)).2.1 e.symm
    · exact (N6 _ (.tail _ (.tail _ (.head _)))).2.1 (List.mem_singleton.mp hm).symm
  case hnw => exact List.forall_mem_cons.mpr ⟨Nat.ne_of_lt lD.1, List.forall_mem_cons.mpr ⟨Nat.ne_of_lt lD.2.1, fun q hq => Nat.ne_of_lt (allLt_mem lD.2.2 q hq)⟩⟩
  case hst => exact ⟨Nat.zero_le _, ⟨_, hitD, rfl, by simp [revObj]⟩, ⟨_, News.get N6 (.tail _ (.tail _ (.head _))), rfl, 0, rfl⟩⟩
  case h0 =>
    have hx : a / 2 ^ (n * (c - 0)) = 0 := by
      refine Nat.div_eq_of_lt ?_
      rw [ec]
      exact nd_lt hn
    refine' ⟨_, _, _, [], [], 0, ?a1, rfl, .nil, rfl, (fun _ q => nomatch q), ?a2⟩
    case a1 =>
      rw [hx, Nat.zero_mod]
      exact map3_start rfl
    case a2 => rw [hx, Nat.zero_div]; rfl
  case turn =>
    rintro J' hJ' ⟨h7, g7, dr7, tk7, os7⟩ i v m₁ news₁ o hi hP ⟨tr, uq, ua, qvs, qs, ep, rfl, rfl, hq1, hq2, hq3, hq4⟩ hoff F7 N7
    change Fr _ _ h7 _ at F7
    change News _ _ h7 _ at N7
    refine opq fun QQ hQQ => ?_
    have hic : i < c := by rw [List.size_toArray, hvl] at hi; exact hi
    obtain ⟨td, hd⟩ := i4.get (c - 1 - i) _ (dg_get (Nat.lt_of_le_of_lt (Nat.sub_le _ _) (Nat.sub_lt (Nat.lt_of_le_of_lt (Nat.zero_le _) hic) Nat.zero_lt_one)))
    have ev : v = .int ((a / 2 ^ (n * (c - 1 - i)) % 2 ^ n : Nat) : Int) td := by
      rw [List.size_toArray, hvl, List.getElem?_toArray, hd] at hP
      exact (Option.some.inj hP).symm
    subst ev
    have hqD := hoff _ (.head _)
    have hqD' : @Ne Nat ql _ := hqD
    k_steps
    unfold Stop
    obtain ⟨R, eR⟩ : ∃ R, R = a / 2 ^ (n * (c - i)) % b := ⟨_, rfl⟩
    obtain ⟨dd, ed⟩ : ∃ dd, dd = a / 2 ^ (n * (c - 1 - i)) % 2 ^ n := ⟨_, rfl⟩
    rw [← eR] at F7 ⊢
    rw [← ed] at F7
    obtain ⟨hRn, hn2, hlt, hd1, hd2⟩ := div_facts (n := n) (R := R) (dd := dd) en hb hb9 (by rw [eR]; exact Nat.mod_lt _ hb) (by rw [ed]; exact Nat.mod_lt _ (Nat.two_pow_pos _))
    refine PyProof.Rows.lshift_int (Int.natCast_nonneg _) hn2 ?_
    rw [Int.toNat_natCast]
    have eS : (R : Int) * 2 ^ n = ((R * 2 ^ n : Nat) : Int) := by rw [Int.natCast_mul, Int.natCast_pow]; rfl
    rw [eS]
    k_steps
    unfold Stop
    rename Fr _ _ _ _ => F8
    rename News _ _ _ _ => N8
    refine div2n1n_spec (rm.less (by decide : 3 + 1 ≤ 110)).deeper G (fun b' o e => F8.keep _ _ (kg _ _ e)) (Int.ofNat_le.mpr hb) hd1 hd2 ?_
    intro h9 tk9 rt u1 u2 k9 le9 get9
    have F9 := F8.keeps k9
    have lt9 := news_lt N8 le9
    have l91 : @LT.lt Nat _ ql rt := lt9 _ (.tail _ (.head _))
    have N9 := newsAdd F8 (N8.grown k9) get9 le9
    clear F8 N8
    k_steps
    have hqs : qvs.toArray.size ≤ sizeLine := by rw [List.size_toArray, hq1.length, sizeLine_eq, hq2]; exact Nat.le_trans (Nat.le_of_lt hic) (Nat.le_trans hc (by decide))
    refine' append_K (its := qvs.toArray) (n := ep) ?k1 ?k2 ?k3 ?_ hqs
    case k1 => k_asm
    case k2 => k_asm
    case k3 => k_upd
    intro h10 F10 N10
    k_steps
    have eA := dig_step a n c i hic
    have eQ : ((R * 2 ^ n : Nat) : Int) + (dd : Int) = ((R * 2 ^ n + dd : Nat) : Int) := (Int.natCast_add _ _).symm
    rw [← ed] at eA
    obtain ⟨s1, s2⟩ := ld_step hb eA eR
    rw [eQ, fdiv_nat, fmod_nat, ← s2] at F10
    rw [eQ, fdiv_nat, fmod_nat, List.push_toArray] at N10
    refine hQQ _ _ (EndN.mk' ((ql, W.listOf (qvs ++ [Value.int (((R * 2 ^ n + dd) / b : Nat) : Int) u1]).toArray (ep + 1)) :: (r, W.listOf vs.toArray 0) :: tl) F10 N10 (.tail _ (.head _)) (List.forall_mem_cons.mpr ⟨(List.mem_of_getElem? (i := 2) rfl), fun q hq => .tail _ (.tail _ (.tail _ hq))⟩) (List.forall_mem_cons.mpr ⟨hqD, fun q hq => hoff q (.tail _ hq)⟩) (hJ' _ _ _ ?_))
    refine ⟨u2, _, _, _, qs ++ [(((R * 2 ^ n + dd) / b : Nat) : Int)], _, map3_turn, rfl, IntsAre.append hq1 (.cons _ _ .nil), (by rw [List.length_append, hq2]; rfl), ?_, ?_⟩
    · intro q hq
      rcases List.mem_append.mp hq with hq | hq
      · exact hq3 q hq
      · rw [List.mem_singleton.mp hq]
        refine ⟨Int.natCast_nonneg _, ?_⟩
        have h5 : (R * 2 ^ n + dd) / b < 2 ^ n := (Nat.div_lt_iff_lt_mul hb).mpr (by rw [Nat.mul_comm (2 ^ n) b]; exact hlt)
        have h6 : (((R * 2 ^ n + dd) / b : Nat) : Int) < ((2 ^ n : Nat) : Int) := Int.ofNat_lt.mpr h5
        rw [Int.natCast_pow] at h6
        exact h6
    · rw [List.reverse_append, List.reverse_cons, List.reverse_nil, List.nil_append, List.singleton_append, vl, hq4, s1, Int.natCast_add, Int.natCast_mul, Int.add_comm, Int.mul_comm (2 ^ n), Int.natCast_pow]
      rfl
  case done =>
    rintro m' news' h10 tk10 ⟨tr, uq, ua, qvs, qs, ep, rfl, rfl, hq1, hq2, hq3, hq4⟩ F10 N10
    (try clear F5); (try clear N5); (try clear F6); (try clear N6)
    k_steps
    unfold Stop
    have hqs : qvs.length ≤ sizeLine := by rw [hq1.length, hq2, List.size_toArray, hvl, sizeLine_eq]; exact Nat.le_trans hc (by decide)
    refine' kl_reverse (its := qvs.toArray) (l := qvs.reverse) (n := ep) ?F ?N rfl ?U hqs ?_
    case F => k_asm
    case N => k_asm
    case U => k_upd
    intro h11 F11 N11
    k_steps
    unfold Stop
    refine call2 (ds := qs.reverse) (rm.less (by decide : 101 ≤ 110)).deeper kg (Nat.le_of_lt (Nat.lt_of_le_of_lt hLs F11.ns.lt)) F11 N11 p1 hn (ints_rev hq1) ?_ ?_ ?_ ?_
    · rw [List.length_reverse, hq2, List.size_toArray, hvl]; exact hc
    · rw [List.length_reverse, hq2, List.size_toArray, hvl]; exact Nat.le_trans (Nat.mul_le_mul hb9 hc) (by decide)
    · intro q hq; exact hq3 q (List.mem_reverse.mp hq)
    intro h12 tk12 t12 tl' F12 N12 p2
    have ez : a / 2 ^ (n * (c - vs.toArray.size)) = a := by rw [List.size_toArray, hvl, Nat.sub_self, Nat.mul_zero, Nat.pow_zero, Nat.div_one]
    rw [hq4, ez]
    rw [ez] at F12
    have sz12 := F12.ns.lt
    clear F10 N10 F11 N11
    k_steps
    (try dsimp only)
    rename Fr _ _ _ _ => F13
    rename News _ _ _ _ => N13
    rename (ql < _ ∧ _) => l13
    exact h _ _ _ _ _ _ _ _ tl' hg F13 (fun q hq => N13 q (.tail _ (.tail _ hq))) p2 (Nat.le_trans sr (Nat.le_of_lt (Nat.lt_trans lrq.1 l13.1))) (News.get N13 (.head _))
theorem divmod_used {prog : Program} {w : World} {A : Around} {E : Value → Shared → Prop} {s : Shared} {p : Program} {loose : List Str} {mean : ExcName → Option Value} {mg mb : Str → Option Value} {H0 : Heap}
    (rm : Rm A 110) (G : Gnd w p loose mean mg mb H0) (k : H0.StaysIn s.heap) {c1 c2 : Addr} {o1 o2 : Obj} (t1 : TabU H0 s.heap 37 (iSig w).1.2.2.2 qI c1 o1) (t2 : TabU H0 s.heap 44 (jSig w).1.2.2.2 qJ c2 o2)
    {a b : Nat} {ta tb : Tok} {Q : Value → Shared → Prop} (hb : 0 < b) (hb9 : Builtin.Int.intBits (b : Int) ≤ 4000) (hc : (Builtin.Int.intBits (a : Int) + Builtin.Int.intBits (b : Int) - 1) / Builtin.Int.intBits (b : Int) ≤ 80)
    (h : ∀ h' tk r u1 u2, s.heap.StaysIn h' → s.heap.objs.size ≤ r → h'.get? r = some { cls := .type "tuple", data := .seq #[.int ((a / b : Nat) : Int) u1, .int ((a % b : Nat) : Int) u2] } → Q (.ref r) { s with heap := h', toks := tk }) :
    wpAny (model prog w) A (call (.ref 56) [.int a ta, .int b tb] []) Q E s := by
  have hM : ∀ q ∈ [(37, tabObj #[rawInt (iSig w).1.2.2.2.line, rawInt (iSig w).1.2.2.2.col, .ref c1]), (c1, o1), (44, tabObj #[rawInt (jSig w).1.2.2.2.line, rawInt (jSig w).1.2.2.2.col, .ref c2]), (c2, o2)], s.heap.get? q.1 = some q.2 := List.forall_mem_cons.mpr ⟨t1.hP, List.forall_mem_cons.mpr ⟨t1.hc, List.forall_mem_cons.mpr ⟨t2.hP, List.forall_mem_singleton.mpr t2.hc⟩⟩⟩
  refine divmod_gen rm G k (fun tl => tl = [(37, tabObj #[rawInt (iSig w).1.2.2.2.line, rawInt (iSig w).1.2.2.2.col, .ref c1]), (c1, o1), (44, tabObj #[rawInt (jSig w).1.2.2.2.line, rawInt (jSig w).1.2.2.2.col, .ref c2]), (c2, o2)]) (fun tl => tl = [(37, tabObj #[rawInt (iSig w).1.2.2.2.line, rawInt (iSig w).1.2.2.2.col, .ref c1]), (c1, o1), (44, tabObj #[rawInt (jSig w).1.2.2.2.line, rawInt (jSig w).1.2.2.2.col, .ref c2]), (c2, o2)]) hM (List.forall_mem_cons.mpr ⟨G.n2, List.forall_mem_cons.mpr ⟨t1.nc, List.forall_mem_cons.mpr ⟨G.n1, List.forall_mem_singleton.mpr t2.nc⟩⟩⟩) hb hb9 hc ?_ ?_ ?_
  · intro A' E' Q' s' g L m n ta tn rm' kg _ F N hn hc' hn2 hQ
    refine int2digits_used rm' G (fun b o e => F.keep _ _ (kg _ _ e)) ⟨News.get N (.head _), News.get N (.tail _ (.head _)), t1.hd, t1.nc⟩ hn hc' hn2 ?_
    intro h' tk r vs kk le get hi
    exact hQ h' tk r vs _ (F.keeps kk) (newsAdd F (N.grown kk) get le) rfl le hi
  · rintro A' E' Q' s' g L m n ep l r vs us tl ds tn rm' kg _ F N rfl hn hvs hl hsz hds hQ
    refine digits2int_used rm' G (fun b o e => F.keep _ _ (kg _ _ e)) ⟨News.get N (.tail _ (.tail _ (.tail _ (.tail _ (.head _))))), News.get N (.tail _ (.tail _ (.tail _ (.tail _ (.tail _ (.head _)))))), t2.hd, t2.nc⟩ hn (News.get N (.head _)) hvs hl hsz hds ?_
    intro h' tk t kk
    exact hQ h' tk t _ (F.keeps kk) (fun q hq => (N.grown kk) q (by
      rcases List.mem_cons.mp hq with e | hq
      · rw [e]; exact .head _
      · exact .tail _ (.tail _ hq))) rfl
  · rintro h' tk r u1 u2 g L m tl hg F N rfl le get
    exact h h' tk r u1 u2 (kept_all hg hM F fun q hq => News.get N hq) le get
theorem divmod_fresh {prog : Program} {w : World} {A : Around} {E : Value → Shared → Prop} {s : Shared} {p : Program} {loose : List Str} {mean : ExcName → Option Value} {mg mb : Str → Option Value} {H0 : Heap}
    (rm : Rm A 110) (G : Gnd w p loose mean mg mb H0) (k : H0.StaysIn s.heap) (t1 : s.heap.get? 37 = some (tabObj #[])) (t2 : s.heap.get? 44 = some (tabObj #[]))
    {a b : Nat} {ta tb : Tok} {Q : Value → Shared → Prop} (hb : 0 < b) (hb9 : Builtin.Int.intBits (b : Int) ≤ 4000) (hc : (Builtin.Int.intBits (a : Int) + Builtin.Int.intBits (b : Int) - 1) / Builtin.Int.intBits (b : Int) ≤ 80)
    (h : ∀ h' tk r u1 u2 c1 c2 o1 o2, (∀ b o, b ≠ 37 → b ≠ 44 → s.heap.get? b = some o → h'.get? b = some o) → TabU H0 h' 37 (iSig w).1.2.2.2 qI c1 o1 → TabU H0 h' 44 (jSig w).1.2.2.2 qJ c2 o2 → s.heap.objs.size ≤ c1 → s.heap.objs.size ≤ c2 → s.heap.objs.size ≤ r → h'.get? r = some { cls := .type "tuple", data := .seq #[.int ((a / b : Nat) : Int) u1, .int ((a % b : Nat) : Int) u2] } → Q (.ref r) { s with heap := h', toks := tk }) :
    wpAny (model prog w) A (call (.ref 56) [.int a ta, .int b tb] []) Q E s := by
  refine divmod_gen rm G k (M := [(37, tabObj #[]), (44, tabObj #[])]) (fun tl => ∃ c1 o1, tl = [(c1, o1), (37, tabObj #[rawInt (iSig w).1.2.2.2.line, rawInt (iSig w).1.2.2.2.col, .ref c1]), (44, tabObj #[])] ∧ @Ne Nat c1 44 ∧ s.heap.objs.size ≤ c1 ∧ H0.get? c1 = none ∧ ∃ vs t, o1.data = .fields vs ∧ vs[1]? = some (.str qI t))
    (fun tl => ∃ c1 o1 c2 o2, tl = [(c2, o2), (44, tabObj #[rawInt (jSig w).1.2.2.2.line, rawInt (jSig w).1.2.2.2.col, .ref c2]), (c1, o1), (37, tabObj #[rawInt (iSig w).1.2.2.2.line, rawInt (iSig w).1.2.2.2.col, .ref c1])] ∧ s.heap.objs.size ≤ c1 ∧ s.heap.objs.size ≤ c2 ∧ H0.get? c1 = none ∧ H0.get? c2 = none ∧ (∃ vs t, o1.data = .fields vs ∧ vs[1]? = some (.str qI t)) ∧ ∃ vs t, o2.data = .fields vs ∧ vs[1]? = some (.str qJ t))
    (List.forall_mem_cons.mpr ⟨t1, List.forall_mem_singleton.mpr t2⟩) (List.forall_mem_cons.mpr ⟨G.n2, List.forall_mem_singleton.mpr G.n1⟩) hb hb9 hc ?_ ?_ ?_
  · intro A' E' Q' s' g L m n ta tn rm' kg ls F N hn hc' hn2 hQ
    refine int2digits_fresh rm' G (fun b o e => F.keep _ _ (kg _ _ e)) (News.get N (.head _)) hn hc' hn2 ?_
    intro h' tk r vs c1 o1 kk tu lc le get hi
    obtain ⟨F1, N1⟩ := after_upd (pre := []) F N (fun _ q => nomatch q) (List.forall_mem_singleton.mpr (by decide)) kk tu.hP
    exact hQ h' tk r vs _ F1 (newsAdd F (newsAdd F N1 tu.hc lc) get le) ⟨c1, o1, rfl, Nat.ne_of_gt (Nat.lt_of_lt_of_le (Heap.lt_size (N _ (.tail _ (.head _))).1) lc), Nat.le_trans ls lc, tu.nc, tu.hd⟩ le hi
  · rintro A' E' Q' s' g L m n ep l r vs us tl ds tn rm' kg ls F N ⟨c1, o1, rfl, n1, lc1, hn1, hd1⟩ hn hvs hl hsz hds hQ
    have g44 := News.get N (.tail _ (.tail _ (.tail _ (.tail _ (.head _)))))
    have gl := News.get N (.head _)
    refine digits2int_fresh rm' G (fun b o e => F.keep _ _ (kg _ _ e)) g44 hn gl hvs hl hsz hds ?_
    intro h' tk t c2 o2 kk tu lc
    obtain ⟨F1, N1⟩ := after_upd (pre := [(l, W.listOf vs.toArray ep), (r, W.listOf us.toArray 0), (c1, o1), (37, tabObj #[rawInt (iSig w).1.2.2.2.line, rawInt (iSig w).1.2.2.2.col, .ref c1])]) F N
      (List.forall_mem_cons.mpr ⟨ne_of_data gl g44 (by intro q; cases q), List.forall_mem_cons.mpr ⟨ne_of_data (News.get N (.tail _ (.head _))) g44 (by intro q; cases q), List.forall_mem_cons.mpr ⟨n1, List.forall_mem_singleton.mpr (by show @Ne Nat 37 44; decide)⟩⟩⟩) (fun _ q => nomatch q) kk tu.hP
    have N2 := newsAdd F N1 tu.hc lc
    exact hQ h' tk t [(c2, o2), (44, _), (c1, o1), (37, _)] F1 (List.forall_mem_cons.mpr ⟨N2 _ (.tail _ (.head _)), List.forall_mem_cons.mpr ⟨N2 _ (.head _), List.forall_mem_cons.mpr ⟨N2 _ (.tail _ (.tail _ (.tail _ (.tail _ (.tail _ (.head _)))))), List.forall_mem_cons.mpr ⟨N2 _ (.tail _ (.tail _ (.tail _ (.head _)))), List.forall_mem_singleton.mpr (N2 _ (.tail _ (.tail _ (.tail _ (.tail _ (.head _))))))⟩⟩⟩⟩) ⟨c1, o1, c2, o2, rfl, lc1, Nat.le_trans ls lc, hn1, tu.nc, hd1, tu.hd⟩
  · rintro h' tk r u1 u2 g L m tl hg F N ⟨c1, o1, c2, o2, rfl, l1, l2, n1, n2, d1, d2⟩ le get
    refine h h' tk r u1 u2 c1 c2 o1 o2 (fun b' o' m1 m2 e => F.keep _ _ (by
      rw [hg]
      refine hideAll_get _ e fun hm => ?_
      rcases List.mem_cons.mp hm with e | hm
      · exact m1 e
      · exact m2 (List.mem_singleton.mp hm))) ⟨News.get N (.tail _ (.tail _ (.tail _ (.head _)))), News.get N (.tail _ (.tail _ (.head _))), d1, n1⟩ ⟨News.get N (.tail _ (.head _)), News.get N (.head _), d2, n2⟩ l1 l2 le get
end

section
open PySem PySem.W PyProof.Rows PySem.Calls
theorem fill_F5 (w : World) : PySem.Challenge.rw_rt0101_01 = PySem.Challenge.rw_rt0101_01 ∨ Mine.hd.heap_1 w.params = [] := by
  k_fill
  exact Or.inl rfl
set_option maxHeartbeats 4000000 in
theorem fspath_spec {prog : Program} {w : World} {A : Around} {E : Value → Shared → Prop} {s : Shared} {p : Program} {loose : List Str} {mean : ExcName → Option Value} {mg mb : Str → Option Value} {H0 : Heap}
    (rm : Rm A 20) (G : Gnd w p loose mean mg mb H0) (k : H0.StaysIn s.heap)
    {x : Str} {tx : Tok} {Q : Value → Shared → Prop}
    (h : ∀ h' tk t, s.heap.StaysIn h' → Q (.str x t) { s with heap := h', toks := tk }) :
    wpAny (model prog w) A (call (.ref 249) [.str x tx] []) Q E s := by
  obtain ⟨hd, d, fr, gs, u⟩ := A
  obtain rfl : hd = none := rm.hh
  refine wpAny_call ?_
  w_on
  refine' enter_plain (M := []) (binds := [(Str.ofString "path", Value.str x tx)]) G k ?k6 ?k7 ?k8 (fun _ q => nomatch q) (fun _ q => nomatch q) ?k9 ?kB ?_ ?c5 ?c2 ?c3 ?c4
  walk_at "m_plain"
  intro L' h' g' hL hg kg F' N'
  obtain ⟨X', T', C1', C2'⟩ := G.keeps kg
  dsimp only
  k_steps
  refine call_issub_str (News.get (by assumption) (.head _)) ?_
  k_steps
  dsimp only
  rename Fr _ _ _ _ => F2
  rename News _ _ _ _ => N2
  exact h _ _ _ (kept_all hg (fun _ q => nomatch q) F2 (fun _ q => nomatch q))
set_option maxHeartbeats 4000000 in
theorem getsep_spec {prog : Program} {w : World} {A : Around} {E : Value → Shared → Prop} {s : Shared} {p : Program} {loose : List Str} {mean : ExcName → Option Value} {mg mb : Str → Option Value} {H0 : Heap}
    (rm : Rm A 20) (G : Gnd w p loose mean mg mb H0) (k : H0.StaysIn s.heap)
    {x : Str} {tx : Tok} {Q : Value → Shared → Prop}
    (h : ∀ h' tk t, s.heap.StaysIn h' → Q (.str (Str.ofString "/") t) { s with heap := h', toks := tk }) :
    wpAny (model prog w) A (call (.ref 263) [.str x tx] []) Q E s := by
  obtain ⟨hd, d, fr, gs, u⟩ := A
  obtain rfl : hd = none := rm.hh
  refine wpAny_call ?_
  w_on
  refine' enter_plain (M := []) (binds := [(Str.ofString "path", Value.str x tx)]) G k ?k6 ?k7 ?k8 (fun _ q => nomatch q) (fun _ q => nomatch q) ?k9 ?kB ?_ ?c5 ?c2 ?c3 ?c4
  walk_at "m_plain"
  intro L' h' g' hL hg kg F' N'
  obtain ⟨X', T', C1', C2'⟩ := G.keeps kg
  dsimp only
  k_steps
  dsimp only
  rename Fr _ _ _ _ => F2
  exact h _ _ _ (kept_all hg (fun _ q => nomatch q) F2 (fun _ q => nomatch q))
def dirR (y : Str) : Str := if (y != Txt.mul (Str.ofString "/") (y.length : Int)) = true then Txt.rstripChars y (Str.ofString "/") else y
set_option maxHeartbeats 4000000 in
theorem dirname_spec {prog : Program} {w : World} {A : Around} {E : Value → Shared → Prop} {s : Shared} {p : Program} {loose : List Str} {mean : ExcName → Option Value} {mg mb : Str → Option Value} {H0 : Heap}
    (rm : Rm A 30) (G : Gnd w p loose mean mg mb H0) (k : H0.StaysIn s.heap)
    {x : Str} {tx : Tok} {Q : Value → Shared → Prop} (hx : x.length ≤ sizeLine) {y : Str} (e1 : Txt.slice x none (some (Txt.rfind x (Str.ofString "/") + 1)) = y) (y0 : 0 < y.length) (y1 : y.length ≤ 1000)
    (h : ∀ h' tk t, s.heap.StaysIn h' → Q (.str (dirR y) t) { s with heap := h', toks := tk }) :
    wpAny (model prog w) A (call (.ref 277) [.str x tx] []) Q E s := by
  obtain ⟨hd, d, fr, gs, u⟩ := A
  obtain rfl : hd = none := rm.hh
  refine wpAny_call ?_
  w_on
  refine' enter_plain (M := []) (binds := [(Str.ofString "p", Value.str x tx)]) G k ?k6 ?k7 ?k8 (fun _ q => nomatch q) (fun _ q => nomatch q) ?k9 ?kB ?_ ?c5 ?c2 ?c3 ?c4
  walk_at "m_plain"
  intro L' h' g' hL hg kg F' N'
  obtain ⟨X', T', C1', C2'⟩ := G.keeps kg
  dsimp only
  k_steps
  unfold Stop
  refine fspath_spec (rm.less (by decide : 21 ≤ 30)).deeper G (fun b o e => F'.keep _ _ (kg _ _ e)) ?_
  intro h2 tk2 t2 k2
  have F2 := F'.keeps k2
  have N2 := N'.grown k2
  k_steps
  unfold Stop
  rename Fr _ _ _ _ => F3
  rename News _ _ _ _ => N3
  refine getsep_spec (rm.less (by decide : 21 ≤ 30)).deeper G (fun b o e => F3.keep _ _ (kg _ _ e)) ?_
  intro h3 tk3 t3 k3
  have F4 := F3.keeps k3
  have N4 := N3.grown k3
  k_steps
  rename Fr _ _ _ _ => F5
  rw [e1] at F5 ⊢
  have h63 : (9223372036854775808 : Int) = 2 ^ 63 := rfl
  refine P.truthy_str (by omega) ?_
  rw [show ((y.length : Int) != 0) = true by simp; omega]
  k_steps
  case' _ => skip
  all_goals dsimp only
  all_goals rename Fr _ _ _ _ => F6
  · rename (y != _) = true => hb
    have e : dirR y = Txt.rstripChars y (Str.ofString "/") := if_pos hb
    rw [← e]
    exact h _ _ _ (kept_all hg (fun _ q => nomatch q) F6 (fun _ q => nomatch q))
  · rename (y != _) = false => hb
    have e : dirR y = y := if_neg (by rw [hb]; exact Bool.false_ne_true)
    have h2 := fun h' tk t => h h' tk t
    rw [e] at h2
    exact h2 _ _ _ (kept_all hg (fun _ q => nomatch q) F6 (fun _ q => nomatch q))

def joinR (x y : Str) : Str := if Txt.endswith x (Str.ofString "/") = true then x ++ y else x ++ (Str.ofString "/" ++ y)
set_option maxHeartbeats 4000000 in
theorem join_spec {prog : Program} {w : World} {A : Around} {E : Value → Shared → Prop} {s : Shared} {p : Program} {loose : List Str} {mean : ExcName → Option Value} {mg mb : Str → Option Value} {H0 : Heap}
    (rm : Rm A 30) (G : Gnd w p loose mean mg mb H0) (k : H0.StaysIn s.heap)
    {x y : Str} {tx ty : Tok} {Q : Value → Shared → Prop} (x0 : 0 < x.length) (x1 : x.length ≤ 100) (y0 : y.length ≤ 100) (hy : Txt.startswith y (Str.ofString "/") = false)
    (h : ∀ h' tk t, s.heap.StaysIn h' → Q (.str (joinR x y) t) { s with heap := h', toks := tk }) :
    wpAny (model prog w) A (call (.ref 270) [.str x tx, .str y ty] []) Q E s := by
  obtain ⟨hd, d, fr, gs, u⟩ := A
  obtain rfl : hd = none := rm.hh
  refine wpAny_call ?_
  w_on
  refine' enter_rest (M := []) G k ?k6 ?k7 ?k8 (fun _ q => nomatch q) (fun _ q => nomatch q) ?kP ?kG ?kB ?_ ?c5 ?c2 ?c3 ?c4
  walk_at "m_rest"
  intro D L' h' g' hD hL hg kg F' N' hMD
  obtain ⟨X', T', C1', C2'⟩ := G.keeps kg
  have N' : News g' L' h' [(D, { cls := .type "tuple", data := .seq #[.str y ty] })] := N'
  dsimp only
  k_steps
  unfold Stop
  refine fspath_spec (rm.less (by decide : 21 ≤ 30)).deeper G (fun b o e => F'.keep _ _ (kg _ _ e)) ?_
  intro h2 tk2 t2 k2
  have F2 := F'.keeps k2
  have N2 := N'.grown k2
  k_steps
  unfold Stop
  rename Fr _ _ _ _ => F3
  rename News _ _ _ _ => N3
  refine getsep_spec (rm.less (by decide : 21 ≤ 30)).deeper G (fun b o e => F3.keep _ _ (kg _ _ e)) ?_
  intro h3 tk3 t3 k3
  have F4 := F3.keeps k3
  have N4 := N3.grown k3
  k_steps
  unfold Stop
  rename Fr _ _ _ _ => F5
  rename News _ _ _ _ => N5
  refine fspath_spec (rm.less (by decide : 21 ≤ 30)).deeper G (fun b o e => F5.keep _ _ (kg _ _ e)) ?_
  intro h6 tk6 t6 k6
  have F6 := F5.keeps k6
  have N6 := N5.grown k6
  k_steps
  · dsimp only
    rename Fr _ _ _ _ => F7
    rename Txt.endswith x _ = true => he
    have h2 := fun h' tk t => h h' tk t
    simp only [joinR, he, if_true] at h2
    exact h2 _ _ _ (kept_all hg (fun _ q => nomatch q) F7 (fun _ q => nomatch q))
  · dsimp only
    rename Fr _ _ _ _ => F7
    rename Txt.endswith x _ = false => he
    have h2 := fun h' tk t => h h' tk t
    simp only [joinR, he, Bool.false_eq_true, if_false] at h2
    exact h2 _ _ _ (kept_all hg (fun _ q => nomatch q) F7 (fun _ q => nomatch q))
  · exfalso
    rename (x.length : Int) = 0 => hz
    omega
end

section
open PySem PySem.W PyProof.Rows PySem.Calls
theorem fill_F6 (w : World) : PySem.Challenge.rw_rt0101_01 = PySem.Challenge.rw_rt0101_01 ∨ Mine.hd.heap_1 w.params = [] := by
  k_fill
  exact Or.inl rfl
local macro_rules | `(tactic| walk_at "exec For Name Name cons nil") => `(tactic| (refine stop_it ?_))
local macro_rules | `(tactic| walk_at "pyIter ref") => `(tactic| (refine stop_it ?_))
local macro_rules | `(tactic| walk_at "exec Assign") => `(tactic| ((with_reducible show wpAny _ _ (exec (Stmt.Assign [Expr.Name _ _] (Expr.IfExp _ _ _ _) _) _) _ _ _); (with_reducible rename Mark => mk9); clear mk9; refine stop_it ?_))
local macro_rules | `(tactic| walk_at "call type:range") => `(tactic| (refine stop_it ?_))
def wyAdd (ws : List Str) (a : Nat) : List Str := ws ++ [joinR (ws.getD a (Str.ofString "")) (Txt.item (Str.ofString "abcdef") ((ws.length - 1 : Nat) : Int))]
def wys (t : List Nat) : List Str := t.foldl wyAdd [Str.ofString "/"]
theorem wys_snoc (t : List Nat) (a : Nat) : wys (t ++ [a]) = wyAdd (wys t) a := by unfold wys; rw [List.foldl_append]; rfl
theorem wys_fold (t : List Nat) : ∀ ws : List Str, (t.foldl wyAdd ws).length = ws.length + t.length := by
  induction t with
  | nil => intro ws; rfl
  | cons a t ih => intro ws; rw [List.foldl_cons, ih, wyAdd]; simp; omega
theorem wys_len (t : List Nat) : (wys t).length = t.length + 1 := by rw [wys, wys_fold]; simp; omega
theorem let_len (i : Nat) (h : i < 6) : (Txt.item (Str.ofString "abcdef") (i : Int)).length ≤ 100 := (by decide +kernel : ∀ i : Fin 6, (Txt.item (Str.ofString "abcdef") (i.val : Int)).length ≤ 100) ⟨i, h⟩
theorem let_start (i : Nat) (h : i < 6) : Txt.startswith (Txt.item (Str.ofString "abcdef") (i : Int)) (Str.ofString "/") = false := (by decide +kernel : ∀ i : Fin 6, Txt.startswith (Txt.item (Str.ofString "abcdef") (i.val : Int)) (Str.ofString "/") = false) ⟨i, h⟩
theorem str_len_append (x y : Str) : (x ++ y).length = x.length + y.length := Array.size_append ..
theorem join_len (y : Str) (i : Nat) (h : i < 6) : y.length ≤ (joinR y (Txt.item (Str.ofString "abcdef") (i : Int))).length ∧ (joinR y (Txt.item (Str.ofString "abcdef") (i : Int))).length ≤ y.length + 2 := by
  have h0 : (Txt.item (Str.ofString "abcdef") (i : Int)).length = 1 := (by decide +kernel : ∀ i : Fin 6, (Txt.item (Str.ofString "abcdef") (i.val : Int)).length = 1) ⟨i, h⟩
  have h1 : (Str.ofString "/").length = 1 := by decide +kernel
  unfold joinR
  split
  · rw [str_len_append, h0]; exact ⟨Nat.le_add_right _ _, Nat.add_le_add_left (by decide) _⟩
  · rw [str_len_append, str_len_append, h0, h1]; exact ⟨Nat.le_add_right _ _, Nat.le_refl _⟩
def TreeOk (t : List Nat) : Prop := ∀ (i a : Nat), t[i]? = some a → a ≤ i
inductive JT (wa aa : Addr) (K : List (Addr × Obj)) (m0 : Str → Option Value) (i : Nat) (m : Str → Option Value) (ns' : List (Addr × Obj)) : Prop
  | mk (ua uk : Option Value) (avs wvs : List Value) (t : List Nat) (e1 e2 : Nat) : m = (fun y => if y = Str.ofString "added" then ua else if y = Str.ofString "k" then uk else m0 y) → ns' = (wa, W.listOf wvs.toArray e2) :: (aa, W.listOf avs.toArray e1) :: K → t.length = i → TreeOk t → IntsAre avs (t.map Int.ofNat) → StrsAre wvs (wys t) → (∀ y ∈ wys t, 0 < y.length ∧ y.length ≤ 1 + 2 * t.length) → JT wa aa K m0 i m ns'
inductive JC (g : Heap) (L : Addr) (m : Str → Option Value) (N : List (Addr × Obj)) (s : Shared) (f : Flow) (s' : Shared) : Prop
  | mk (h' : Heap) (tk : Nat) (z : Int) (tz : Tok) : f = .next → s' = { s with heap := h', toks := tk } → Fr g L h' (fun y => if y = Str.ofString "added" then some (Value.int z tz) else m y) → News g L h' N → JC g L m N s f s'
theorem add_facts {t : List Nat} {a i : Nat} (hlt : t.length = i) (htr : TreeOk t) (hai : a ≤ i) : TreeOk (t ++ [a]) := by
  intro j b hj
  rcases Nat.lt_or_ge j t.length with hlt2 | hge
  · rw [List.getElem?_append_left hlt2] at hj; exact htr j b hj
  · rw [List.getElem?_append_right hge] at hj
    rcases Nat.eq_or_lt_of_le hge with e | e
    · subst e; rw [Nat.sub_self] at hj; cases Option.some.inj hj; exact hlt ▸ hai
    · rw [List.getElem?_eq_none (Nat.le_sub_of_add_le (by rw [Nat.add_comm]; exact e))] at hj; cases hj
theorem ways_facts {t : List Nat} {a i : Nat} {y : Str} (hlt : t.length = i) (hi6 : i < 6) (hy : (wys t)[a]? = some y) (hys : ∀ y ∈ wys t, 0 < y.length ∧ y.length ≤ 1 + 2 * t.length) : wys (t ++ [a]) = wys t ++ [joinR y (Txt.item (Str.ofString "abcdef") (i : Int))] ∧ ∀ z ∈ wys (t ++ [a]), 0 < z.length ∧ z.length ≤ 1 + 2 * (t ++ [a]).length := by
  have e : wys (t ++ [a]) = wys t ++ [joinR y (Txt.item (Str.ofString "abcdef") (i : Int))] := by rw [wys_snoc, wyAdd, List.getD_eq_getElem?_getD, hy, wys_len, hlt]; rfl
  refine ⟨e, fun z hz => ?_⟩
  rw [e] at hz
  have hm := hys y (List.mem_of_getElem? hy)
  rw [List.length_append, List.length_singleton, Nat.mul_add]
  rcases List.mem_append.mp hz with hz | hz
  · exact ⟨(hys z hz).1, Nat.le_trans (hys z hz).2 (Nat.add_le_add_left (Nat.le_add_right _ _) 1)⟩
  · have e := List.mem_singleton.mp hz
    subst e
    have := join_len y i hi6
    exact ⟨Nat.lt_of_lt_of_le hm.1 this.1, Nat.le_trans this.2 (by rw [← Nat.add_assoc]; exact Nat.add_le_add_right hm.2 2)⟩
theorem mod_facts {x : Int} {i : Nat} : ∃ a : Nat, x.fmod ((i : Int) + 1) = (a : Int) ∧ a ≤ i := by
  have h1 := Int.fmod_nonneg_of_pos x (by omega : (0 : Int) < (i : Int) + 1)
  have h2 := Int.fmod_lt_of_pos x (by omega : (0 : Int) < (i : Int) + 1)
  exact ⟨(x.fmod ((i : Int) + 1)).toNat, by omega, by omega⟩
theorem lt63 {a i : Nat} (h : a ≤ i) (h6 : i < 6) : (a : Int) < 2 ^ 63 := by omega
theorem n_facts (x : Int) : ∃ n : Nat, 2 + x.fmod 5 = (n : Int) ∧ 2 ≤ n ∧ n ≤ 6 := by
  have h1 := Int.fmod_nonneg_of_pos x (by decide : (0 : Int) < 5)
  have h2 := Int.fmod_lt_of_pos x (by decide : (0 : Int) < 5)
  exact ⟨(2 + x.fmod 5).toNat, by omega, by omega, by omega⟩
set_option maxHeartbeats 4000000 in
theorem tree_spec {prog : Program} {w : World} {A : Around} {E : Value → Shared → Prop} {s : Shared} {p : Program} {loose : List Str} {mean : ExcName → Option Value} {mg mb : Str → Option Value} {H0 : Heap}
    (rm : Rm A 100) (G : Gnd w p loose mean mg mb H0) (k : H0.StaysIn s.heap)
    {sc : Addr} {vs : List Value} {ns : List Int} {Q : Value → Shared → Prop} (hl : s.heap.IsList sc vs.toArray) (hI : IntsAre vs ns) (hlen : ns.length ≤ 63)
    (h : ∀ h' tk r aa wa avs wvs t e1 e2, s.heap.StaysIn h' → s.heap.get? aa = none → s.heap.get? wa = none → s.heap.get? r = none → aa < wa → wa < r → h'.get? r = some { cls := .type "tuple", data := .seq #[.ref aa, .ref wa] } → h'.get? aa = some (W.listOf avs.toArray e1) → h'.get? wa = some (W.listOf wvs.toArray e2) →
      2 ≤ t.length → t.length ≤ 6 → TreeOk t → IntsAre avs (t.map Int.ofNat) → StrsAre wvs (wys t) → Q (.ref r) { s with heap := h', toks := tk }) :
    wpAny (model prog w) A (call (.ref 284) [.ref sc] []) Q E s := by
  obtain ⟨hd, d, fr, gs, u⟩ := A
  obtain rfl : hd = none := rm.hh
  refine wpAny_call ?_
  w_on
  refine' enter_plain (M := []) (binds := [(Str.ofString "script", Value.ref sc)]) G k ?k6 ?k7 ?k8 (fun _ q => nomatch q) (fun _ q => nomatch q) ?k9 ?kB ?_ ?c5 ?c2 ?c3 ?c4
  walk_at "m_plain"
  intro L' h' g' hL hg kg F' N'
  obtain ⟨X', T', C1', C2'⟩ := G.keeps kg
  have hg2 : g' = s.heap := hg
  clear hg
  subst hg2
  (try dsimp only)
  k_steps
  unfold Stop
  rename_i D _ _ _ aa _ lDa _ wa _ lwa _ F5 N5
  with_unfolding_all refine' For_invVF F5 ?k1 ?k2 ?_
  case k1 => exact rfl
  case k2 => exact rfl
  k_steps
  unfold Stop
  (try dsimp only)
  obtain ⟨n, en, n2, n6⟩ := n_facts ns.sum
  rw [en]
  rename Fr _ _ _ _ => F6
  rename News _ _ _ _ => N6
  obtain ⟨t0, t1, t2, t3, t4, t5, tw, N6⟩ : ∃ t0 t1 t2 t3 t4 t5 tw, News s.heap L' _ [(wa, W.listOf #[.str (Str.ofString "/") tw] 0), (aa, W.listOf #[] 0), (D, { cls := .type "tuple", data := .seq #[.int 0 t0, .int 1 t1, .int 1 t2, .int 3 t3, .int 0 t4, .int 4 t5] })] := ⟨_, _, _, _, _, _, _, N6⟩
  refine' rangeN (m₀ := ?m) (n := n) (JT wa aa [(D, { cls := .type "tuple", data := .seq #[.int 0 t0, .int 1 t1, .int 1 t2, .int 3 t3, .int 0 t4, .int 4 t5] })] ?m) rfl F6 N6 (Nat.le_trans n6 (by decide)) ?h0 ?turn ?done
  case h0 =>
    refine ⟨_, _, [], [_], [], 0, 0, map2_start rfl, rfl, rfl, (fun _ _ q => nomatch q), .nil, .cons _ _ .nil, List.forall_mem_singleton.mpr (by decide)⟩
  case turn =>
    rintro J' hJ' ⟨h7, g7, dr7, tk7, os7⟩ I i ti m₁ news₁ o hi ⟨ua, uk, avs, wvs, t, e1, e2, rfl, rfl, hlt, htr, hav, hwv, hys⟩ hne F7 N7
    change Fr _ _ h7 _ at F7
    change News _ _ h7 _ at N7
    refine opq fun QQ0 hQQ => ?_
    have hi6 : i < 6 := Nat.lt_of_lt_of_le hi n6
    have sz1 : avs.toArray.size ≤ sizeLine := by rw [List.size_toArray, hav.length, List.length_map, sizeLine_eq, hlt]; exact Nat.le_trans (Nat.le_of_lt hi6) (by decide)
    have n1 : @Ne Nat wa I := hne _ (.head _)
    have n2 : @Ne Nat aa I := hne _ (.tail _ (.head _))
    have n3 : @Ne Nat D I := hne _ (.tail _ (.tail _ (.head _)))
    have n4 : @Ne Nat aa wa := Nat.ne_of_lt lwa.1
    have n5 : @Ne Nat D wa := Nat.ne_of_lt lwa.2
    have n6 : @Ne Nat D aa := Nat.ne_of_lt lDa
    have mk := mark
    (try dsimp only)
    k_steps
    unfold Stop
    refine wpAny_mono (Q := fun f s' => Cut (JC s.heap L' (fun y => if y = Str.ofString "k" then some (.int (i : Int) ti) else if y = Str.ofString "added" then ua else if y = Str.ofString "k" then uk else ?m y) [(I, o), (wa, W.listOf wvs.toArray e2), (aa, W.listOf avs.toArray e1), (D, { cls := .type "tuple", data := .seq #[.int 0 t0, .int 1 t1, .int 1 t2, .int 3 t3, .int 0 t4, .int 4 t5] })] ⟨h7, g7, dr7, tk7, os7⟩ f s')) ?_ ?_ (fun _ _ e => e)
    · refine opq fun QQ hQ1 => ?_
      k_steps
      all_goals rename Fr _ _ _ _ => FA
      all_goals rename News _ _ _ _ => NA
      all_goals exact hQ1 _ _ ⟨_, _, _, _, rfl, rfl, FA, NA⟩
    rintro f s' ⟨h8, tk8, z, tz, rfl, rfl, F8, N8⟩
    clear F7 N7
    k_steps
    obtain ⟨a, ea, hai⟩ := mod_facts (x := ([0, 1, 1, 3, 0, 4] : List Int).getD (i : Int).toNat 0 + z) (i := i)
    rw [ea]
    refine' append_K (its := avs.toArray) (n := e1) ?q1 ?q2 ?q3 ?_ sz1
    case q1 => k_asm
    case q2 => k_asm
    case q3 => k_upd
    intro h8 F8 N8
    rw [List.push_toArray] at N8
    k_steps
    have hgd : (List.map Int.ofNat t ++ [(a : Int)]).getD (i : Int).toNat 0 = (a : Int) := by
      rw [Int.toNat_natCast, List.getD_eq_getElem?_getD, List.getElem?_append_right (Nat.le_of_eq (by rw [List.length_map, hlt])), List.length_map, hlt, Nat.sub_self]
      rfl
    rw [hgd]
    obtain ⟨y, hy⟩ : ∃ y, (wys t)[a]? = some y := ⟨_, List.getElem?_eq_getElem (by rw [wys_len, hlt]; exact Nat.lt_succ_of_le hai)⟩
    obtain ⟨ty, hty⟩ := strs_get hwv hy
    refine item_litK (vs := wvs) (v := .str y ty) ⟨_, News.get (by assumption) (List.mem_of_getElem? (i := 1) rfl), rfl, e2, rfl⟩ (Int.natCast_nonneg _) (lt63 hai hi6) (by rw [Int.toNat_natCast]; exact hty) ?_
    k_steps
    unfold Stop
    rename Fr _ _ _ _ => F9
    rename News _ _ _ _ => N9
    have hym := hys y (List.mem_of_getElem? hy)
    refine join_spec (rm.less (by decide : 31 ≤ 100)).deeper G (fun b o e => F9.keep _ _ (kg _ _ e)) hym.1 (Nat.le_trans hym.2 (by rw [hlt]; exact Nat.le_trans (Nat.add_le_add_left (Nat.mul_le_mul_left 2 (Nat.le_of_lt hi6)) 1) (by decide))) (let_len i hi6) (let_start i hi6) ?_
    intro h10 tk10 ty10 k10
    have F10 := F9.keeps k10
    have N10 := N9.grown k10
    k_steps
    have sz2 : wvs.toArray.size ≤ sizeLine := by rw [List.size_toArray, strs_len hwv, wys_len, sizeLine_eq, hlt]; exact Nat.le_trans hi6 (by decide)
    refine' append_K (its := wvs.toArray) (n := e2) ?q1 ?q2 ?q3 ?_ sz2
    case q1 => k_asm
    case q2 => k_asm
    case q3 => k_upd
    intro h11 F11 N11
    rw [List.push_toArray] at N11
    k_steps
    obtain ⟨w1, w2⟩ := ways_facts hlt hi6 hy hys
    refine hQQ _ _ (EndN.mk' [(wa, W.listOf (wvs ++ [Value.str (joinR y (Txt.item (Str.ofString "abcdef") (i : Int))) ty10]).toArray (e2 + 1)), (aa, W.listOf (avs ++ [_]).toArray (e1 + 1)), (D, _)] F11 N11 (.head _) (fun q hq => .tail _ hq) (List.forall_mem_cons.mpr ⟨n1, List.forall_mem_cons.mpr ⟨n2, List.forall_mem_singleton.mpr n3⟩⟩) (hJ' _ _ _ ?_))
    exact ⟨_, _, avs ++ [_], wvs ++ [_], t ++ [a], e1 + 1, e2 + 1, map2_turn, rfl, by rw [List.length_append, hlt]; rfl, add_facts hlt htr hai, by rw [List.map_append]; exact IntsAre.append hav (.cons _ _ .nil), by rw [w1]; exact strs_app hwv (.cons _ _ .nil), w2⟩
  case done =>
    rintro m' news' h7 tk7 ⟨ua, uk, avs, wvs, t, e1, e2, rfl, rfl, hlt, htr, hav, hwv, hys⟩ F7 N7
    k_steps
    (try dsimp only)
    rename Fr _ _ _ _ => F8
    rename News _ _ _ _ => N8
    rename (_ < _ ∧ _ < _ ∧ _ < _) => l8
    refine h _ _ _ _ _ _ _ _ _ _ F8.keep (N8 _ (List.mem_of_getElem? (i := 2) rfl)).2.2 (N8 _ (List.mem_of_getElem? (i := 1) rfl)).2.2 (N8 _ (.head _)).2.2 lwa.1 l8.1 (News.get N8 (.head _)) (News.get N8 (List.mem_of_getElem? (i := 2) rfl)) (News.get N8 (List.mem_of_getElem? (i := 1) rfl)) (by omega) (by omega) htr hav hwv
end

section
open PySem PySem.W PyProof.Rows PySem.Calls
theorem fill_F7 (w : World) : PySem.Challenge.rw_rt0101_01 = PySem.Challenge.rw_rt0101_01 ∨ Mine.hd.heap_1 w.params = [] := by
  k_fill
  exact Or.inl rfl
local macro_rules | `(tactic| walk_at "exec For Name Name cons nil") => `(tactic| (refine stop_it ?_))
local macro_rules | `(tactic| walk_at "pyIter ref") => `(tactic| (refine stop_it ?_))
local macro_rules | `(tactic| walk_at "call type:range") => `(tactic| (refine stop_it ?_))
local macro_rules | `(tactic| walk_at "exec For") => `(tactic| (refine stop_it ?_))
/-- the ties of one node: the folders in it, and each with the one it lies in -/
def tieStep (t : List Nat) (st : List Nat × List (Nat × Nat)) (k : Nat) : List Nat × List (Nat × Nat) :=
  if st.1.contains (t.getD k 0) then (st.1 ++ [k + 1], st.2 ++ [(k + 1, t.getD k 0)]) else st
def tiesT (t : List Nat) (nd k : Nat) : List Nat × List (Nat × Nat) := (List.range k).foldl (tieStep t) ([nd], [])
inductive TiesAre : List Value → List (Addr × Obj) → List (Nat × Nat) → Prop
  | nil : TiesAre [] [] []
  | snoc {vs tl ts} (T : Addr) (lo up : Nat) (u1 u2 : Tok) : TiesAre vs tl ts → TiesAre (vs ++ [.ref T]) ((T, { cls := .type "tuple", data := .seq #[.int (lo : Int) u1, .int (up : Int) u2] }) :: tl) (ts ++ [(lo, up)])
theorem tiesT_succ (t : List Nat) (nd i : Nat) : tiesT t nd (i + 1) = tieStep t (tiesT t nd i) i := by unfold tiesT; rw [List.range_succ, List.foldl_append]; rfl
theorem ties_bound (t : List Nat) (nd : Nat) (ht : TreeOk t) : ∀ k, k ≤ t.length → ∀ p ∈ (tiesT t nd k).2, p.1 ≤ t.length ∧ p.2 ≤ t.length := by
  intro k
  induction k with
  | zero => intro _ p hp; cases hp
  | succ k ih =>
    intro hk p hp
    rw [tiesT_succ, tieStep] at hp
    split at hp
    · rcases List.mem_append.mp hp with hp | hp
      · exact ih (by omega) p hp
      · rw [List.mem_singleton.mp hp]
        refine ⟨hk, ?_⟩
        have := ht k (t.getD k 0) (by rw [List.getD_eq_getElem?_getD, List.getElem?_eq_getElem (by omega)]; rfl)
        show t.getD k 0 ≤ t.length
        omega
    · exact ih (by omega) p hp
theorem mem_end6 {α : Type} {a g i s t1 t2 : α} {tl : List α} : ∀ q ∈ a :: g :: t1 :: t2 :: tl, q ∈ g :: i :: a :: s :: t1 :: t2 :: tl :=
  fa_cons (.tail _ (.tail _ (.head _))) (fa_cons (.head _) fun q hq => .tail _ (.tail _ (.tail _ (.tail _ hq))))
theorem TiesAre.len {vs tl ts} (h : TiesAre vs tl ts) : vs.length = ts.length := by
  induction h with
  | nil => rfl
  | snoc _ _ _ _ _ _ ih => simp [ih]
theorem TiesAre.get {vs tl ts} (h : TiesAre vs tl ts) : ∀ {i : Nat} {lo up : Nat}, ts[i]? = some (lo, up) → ∃ T u1 u2, vs[i]? = some (.ref T) ∧ (T, ({ cls := .type "tuple", data := .seq #[.int (lo : Int) u1, .int (up : Int) u2] } : Obj)) ∈ tl := by
  induction h with
  | nil => intro i lo up e; simp at e
  | @snoc vs tl ts T a b u1 u2 h ih =>
    intro i lo up e
    rcases Nat.lt_or_ge i ts.length with hlt | hge
    · rw [List.getElem?_append_left hlt] at e
      obtain ⟨T', w1, w2, e1, e2⟩ := ih e
      exact ⟨T', w1, w2, by rw [List.getElem?_append_left (by rw [h.len]; exact hlt)]; exact e1, .tail _ e2⟩
    · rw [List.getElem?_append_right hge] at e
      have e0 : i - ts.length = 0 := by
        rcases Nat.eq_zero_or_pos (i - ts.length) with z | z
        · exact z
        · rw [List.getElem?_eq_none (by simp; omega)] at e; cases e
      rw [e0] at e
      cases Option.some.inj e
      exact ⟨T, u1, u2, by rw [List.getElem?_append_right (by rw [h.len]; exact hge), h.len, e0]; rfl, .head _⟩
theorem mem_perm4 {α : Type} {a b c i : α} {tl : List α} : ∀ q ∈ a :: b :: c :: tl, q ∈ c :: i :: a :: b :: tl :=
  fa_cons (.tail _ (.tail _ (.head _))) (fa_cons (.tail _ (.tail _ (.tail _ (.head _)))) (fa_cons (.head _) fun q hq => .tail _ (.tail _ (.tail _ (.tail _ hq)))))
theorem mem_drop1 {α : Type} {a b : α} {tl : List α} : ∀ q ∈ a :: tl, q ∈ a :: b :: tl :=
  fa_cons (.head _) fun q hq => .tail _ (.tail _ hq)
theorem flat_rep {α : Type} (a : α) (n : Nat) : (List.replicate n [a]).flatten = List.replicate n a := by
  induction n with
  | zero => rfl
  | succ n ih => rw [List.replicate_succ, List.flatten_cons, ih]; rfl
def goneStep (sz : List Int) (g : List Int) (p : Nat × Nat) : List Int :=
  (g.set p.1 (g.getD p.1 0 + sz.getD p.2 0)).set p.2 ((g.set p.1 (g.getD p.1 0 + sz.getD p.2 0)).getD p.2 0 + sz.getD p.1 0)
def goneT (ts : List (Nat × Nat)) (sz : List Int) : List Int := ts.foldl (goneStep sz) (List.replicate sz.length 0)
def standT (ts : List (Nat × Nat)) (sz : List Int) : Nat → List Int
  | 0 => sz
  | k + 1 => goneT ts (standT ts sz k)
def countsT (ts : List (Nat × Nat)) (sz : List Int) (nd k : Nat) : List Int :=
  (List.range k).foldl (fun c i => if i % 2 = 1 then c ++ [(standT ts sz (i + 1)).getD nd 0] else c) [1]
theorem getD_cast (t : List Nat) (i : Nat) : (t.map Int.ofNat).getD (i : Int).toNat 0 = ((t.getD i 0 : Nat) : Int) := by
  rw [Int.toNat_natCast, List.getD_eq_getElem?_getD, List.getElem?_map, List.getD_eq_getElem?_getD]
  cases t[i]? <;> rfl
theorem any_cond (l t : List Nat) (i : Nat) : (l.map Int.ofNat).any (fun x => x == (t.map Int.ofNat).getD (i : Int).toNat 0) = l.contains (t.getD i 0) := by
  rw [getD_cast]
  generalize t.getD i 0 = a
  induction l with
  | nil => rfl
  | cons b l ih =>
    rw [List.map_cons, List.any_cons, ih, List.contains_cons]
    congr 1
    rw [Bool.eq_iff_iff, beq_iff_eq, beq_iff_eq]
    constructor
    · intro e; exact (Int.ofNat.inj e).symm
    · intro e; rw [e]; rfl
theorem countsT_succ (ts : List (Nat × Nat)) (sz : List Int) (nd i : Nat) : countsT ts sz nd (i + 1) = if i % 2 = 1 then countsT ts sz nd i ++ [(standT ts sz (i + 1)).getD nd 0] else countsT ts sz nd i := by
  unfold countsT; rw [List.range_succ, List.foldl_append]; rfl
/-- the walks of 0, 2, .. 16 steps from a node, counted step by step -/
def walksT (t : List Nat) (nd : Nat) : List Int := countsT (tiesT t nd t.length).2 ((List.replicate (t.length + 1) 0).set nd 1) nd 16
inductive JW1 (t : List Nat) (nd : Nat) (ia ti : Addr) (m0 : Str → Option Value) (i : Nat) (m : Str → Option Value) (ns' : List (Addr × Obj)) : Prop
  | mk (uk : Option Value) (ivs tvs : List Value) (tl : List (Addr × Obj)) (e1 e2 : Nat) : m = (fun y => if y = Str.ofString "k" then uk else m0 y) → ns' = (ti, W.listOf tvs.toArray e2) :: (ia, W.listOf ivs.toArray e1) :: tl →
      IntsAre ivs ((tiesT t nd i).1.map Int.ofNat) → TiesAre tvs tl (tiesT t nd i).2 → (tiesT t nd i).1.length ≤ i + 1 → (tiesT t nd i).2.length ≤ i → (∀ q ∈ tl, @Ne Nat q.1 ia) → (∀ q ∈ tl, @Ne Nat q.1 ti) → JW1 t nd ia ti m0 i m ns'
inductive JW2 (ts : List (Nat × Nat)) (s0 : List Int) (nd len : Nat) (ia ti ca : Addr) (K : List (Addr × Obj)) (tl : List (Addr × Obj)) (m0 : Str → Option Value) (i : Nat) (m : Str → Option Value) (ns' : List (Addr × Obj)) : Prop
  | mk (us uu ul ug : Option Value) (sa : Addr) (svs cvs : List Value) (es ec : Nat) : m = (fun y => if y = Str.ofString "stand" then some (.ref sa) else if y = Str.ofString "upper" then uu else if y = Str.ofString "lower" then ul else if y = Str.ofString "gone" then ug else if y = Str.ofString "step" then us else m0 y) →
        ns' = (ca, W.listOf cvs.toArray ec) :: (sa, W.listOf svs.toArray es) :: K →
        IntsAre svs (standT ts s0 i) → IntsAre cvs (countsT ts s0 nd i) → cvs.length ≤ i + 1 → (standT ts s0 i).length = len →
        @Ne Nat sa ca → @Ne Nat ti sa → @Ne Nat ia sa → (∀ q ∈ tl, @Ne Nat q.1 sa) → JW2 ts s0 nd len ia ti ca K tl m0 i m ns'
inductive JW3 (ts : List (Nat × Nat)) (sz : List Int) (len : Nat) (ga : Addr) (K : List (Addr × Obj)) (m0 : Str → Option Value) (j : Nat) (m : Str → Option Value) (ns' : List (Addr × Obj)) : Prop
  | mk (uu ul : Option Value) (gvs : List Value) (eg : Nat) : m = (fun y => if y = Str.ofString "upper" then uu else if y = Str.ofString "lower" then ul else m0 y) → ns' = (ga, W.listOf gvs.toArray eg) :: K →
        IntsAre gvs ((ts.take j).foldl (goneStep sz) (List.replicate sz.length 0)) → ((ts.take j).foldl (goneStep sz) (List.replicate sz.length 0)).length = len → JW3 ts sz len ga K m0 j m ns'
set_option maxHeartbeats 4000000 in
theorem walks_spec {prog : Program} {w : World} {A : Around} {E : Value → Shared → Prop} {s : Shared} {p : Program} {loose : List Str} {mean : ExcName → Option Value} {mg mb : Str → Option Value} {H0 : Heap}
    (rm : Rm A 100) (G : Gnd w p loose mean mg mb H0) (k : H0.StaysIn s.heap)
    {ab : Addr} {avs : List Value} {t : List Nat} {nd : Nat} {tn : Tok} {Q : Value → Shared → Prop} (hl : s.heap.IsList ab avs.toArray) (hI : IntsAre avs (t.map Int.ofNat)) (hlen : t.length ≤ 6) (ht : TreeOk t) (hnd : nd ≤ t.length)
    (h : ∀ h' tk r cvs e, s.heap.StaysIn h' → s.heap.get? r = none → h'.get? r = some (W.listOf cvs.toArray e) → IntsAre cvs (walksT t nd) → Q (.ref r) { s with heap := h', toks := tk }) :
    wpAny (model prog w) A (call (.ref 291) [.ref ab, .int (nd : Int) tn] []) Q E s := by
  obtain ⟨hd, d, fr, gs, u⟩ := A
  obtain rfl : hd = none := rm.hh
  refine wpAny_call ?_
  w_on
  refine' enter_plain (M := []) (binds := [(Str.ofString "above", Value.ref ab), (Str.ofString "node", Value.int (nd : Int) tn)]) G k ?k6 ?k7 ?k8 (fun _ q => nomatch q) (fun _ q => nomatch q) ?k9 ?kB ?_ ?c5 ?c2 ?c3 ?c4
  walk_at "m_plain"
  intro L' h' g' hL hg kg F' N'
  obtain ⟨X', T', C1', C2'⟩ := G.keeps kg
  have hg2 : g' = s.heap := hg
  clear hg
  subst hg2
  (try dsimp only)
  k_steps
  unfold Stop
  rename_i ia _ _ _ ti _ lti _ F5 N5
  with_unfolding_all refine' For_invVF F5 ?k1 ?k2 ?_
  case k1 => exact rfl
  case k2 => exact rfl
  k_steps
  unfold Stop
  rw [List.length_map]
  rename Fr _ _ _ _ => F6
  rename News _ _ _ _ => N6
  refine' rangeN (m₀ := ?m) (n := t.length) (JW1 t nd ia ti ?m) rfl F6 N6 (by omega) ?h0 ?turn ?done
  case h0 =>
    exact ⟨_, [_], [], [], 0, 0, map1_start rfl, rfl, .cons _ _ .nil, .nil, Nat.le_refl _, Nat.le_refl _, (fun _ q => nomatch q), (fun _ q => nomatch q)⟩
  case turn =>
    rintro J' hJ' ⟨h7, g7, dr7, tk7, os7⟩ I i tk0 m₁ news₁ o hi ⟨uk, ivs, tvs, tl, e1, e2, rfl, rfl, hiv, htv, hl1, hl2, hq1, hq2⟩ hne F7 N7
    change Fr _ _ h7 _ at F7
    change News _ _ h7 _ at N7
    refine opq fun QQ hQQ => ?_
    have n1 : @Ne Nat ti I := hne _ (.head _)
    have n2 : @Ne Nat ia I := hne _ (.tail _ (.head _))
    have n3 : @Ne Nat ia ti := Nat.ne_of_lt lti
    have n4 : ∀ q ∈ tl, @Ne Nat q.1 I := fun q hq => hne q (.tail _ (.tail _ hq))
    (try dsimp only)
    k_steps
    · rename (List.any _ _) = true => hin
      rw [any_cond] at hin
      have sz1 : ivs.toArray.size ≤ sizeLine := by rw [List.size_toArray, hiv.length, List.length_map, sizeLine_eq]; omega
      refine' append_K (its := ivs.toArray) (n := e1) ?q1 ?q2 ?q3 ?_ sz1
      case q1 => k_asm
      case q2 => k_asm
      case q3 => k_upd
      intro h8 F8 N8
      rw [List.push_toArray] at N8
      k_steps
      rename_i td _ D _ F9 N9 l9
      have l9a : ∀ q ∈ tl, @LT.lt Nat _ q.1 D := allLt_mem l9.2.2.2
      have m1 : @Ne Nat D ti := Nat.ne_of_gt l9.2.1
      have m2 : @Ne Nat D ia := Nat.ne_of_gt l9.2.2.1
      have m3 : @Ne Nat D I := Nat.ne_of_gt l9.1
      have sz2 : tvs.toArray.size ≤ sizeLine := by rw [List.size_toArray, htv.len, sizeLine_eq]; omega
      refine' append_K (its := tvs.toArray) (n := e2) ?q1 ?q2 ?q3 ?_ sz2
      case q1 => k_asm
      case q2 => k_asm
      case q3 => k_upd
      intro h10 F10 N10
      rw [List.push_toArray] at N10
      k_steps
      rw [getD_cast] at N10
      have est : tiesT t nd (i + 1) = ((tiesT t nd i).1 ++ [i + 1], (tiesT t nd i).2 ++ [(i + 1, t.getD i 0)]) := by rw [tiesT_succ, tieStep, hin]; rfl
      have ei : (i : Int) + 1 = ((i + 1 : Nat) : Int) := rfl
      rw [ei] at N10
      refine hQQ _ _ (EndN.mk' ((ti, W.listOf (tvs ++ [Value.ref D]).toArray (e2 + 1)) :: (ia, W.listOf (ivs ++ [_]).toArray (e1 + 1)) :: (D, _) :: tl) F10 N10 (.tail _ (.head _)) mem_perm4 ?_ ?_)
      · exact List.forall_mem_cons.mpr ⟨n1, List.forall_mem_cons.mpr ⟨n2, List.forall_mem_cons.mpr ⟨m3, n4⟩⟩⟩
      · refine hJ' _ _ _ ⟨_, ivs ++ [_], tvs ++ [_], _, e1 + 1, e2 + 1, map1_turn, rfl, ?_, est ▸ .snoc _ _ _ _ _ htv, ?_, ?_, List.forall_mem_cons.mpr ⟨m2, hq1⟩, List.forall_mem_cons.mpr ⟨m1, hq2⟩⟩
        all_goals rw [est]
        · rw [List.map_append]; exact IntsAre.append hiv (.cons _ _ .nil)
        · rw [List.length_append]; exact Nat.add_le_add_right hl1 1
        · rw [List.length_append]; exact Nat.add_le_add_right hl2 1
    · rename (List.any _ _) = false => hin
      rw [any_cond] at hin
      have est : tiesT t nd (i + 1) = tiesT t nd i := by rw [tiesT_succ, tieStep, hin]; rfl
      refine hQQ _ _ (EndN.mk' _ F7 N7 (.head _) (fun q hq => .tail _ hq) hne (hJ' _ _ _ ?_))
      rw [← est] at hiv htv hl1 hl2
      exact ⟨_, ivs, tvs, tl, e1, e2, map1_turn, rfl, hiv, htv, Nat.le_succ_of_le hl1, Nat.le_succ_of_le hl2, hq1, hq2⟩
  case done =>
    rintro m' news' h7 tk7 ⟨uk, ivs, tvs, tl, e1, e2, rfl, rfl, hiv, htv, hl1, hl2, hq1, hq2⟩ F7 N7
    have n3 : @Ne Nat ia ti := Nat.ne_of_lt lti
    k_steps
    rename_i l0 _ _ _ lt0 D _ _ _ i1 nn s1 e1' e2' e3' lD _ F9 N9
    have er : (List.replicate (((List.map Int.ofNat t).length : Int) + 1).toNat [(0 : Int)]).flatten = List.replicate (t.length + 1) 0 := by
      rw [List.length_map, show ((t.length : Int) + 1).toNat = t.length + 1 from rfl, flat_rep]
    rw [er] at i1
    generalize List.flatten (_ : List (List Value)) = svs at i1 N9
    have lDa : ∀ q ∈ tl, @Ne Nat q.1 D := fun q hq => Nat.ne_of_lt (allLt_mem lD.2.2.2 q hq)
    have d1 : @Ne Nat l0 D := Nat.ne_of_lt lD.1
    have d2 : @Ne Nat ti D := Nat.ne_of_lt lD.2.1
    have d3 : @Ne Nat ia D := Nat.ne_of_lt lD.2.2.1
    refine' ksa_set (vs := svs) (ns := List.replicate (t.length + 1) 0) (n := 0) ?F ?N ?U i1 (by omega) (by rw [List.length_replicate]; omega) (by omega) ?_
    case F => k_asm
    case N => k_asm
    case U => k_upd
    intro h10 F10 N10 i10 _ _
    rw [Int.toNat_natCast] at i10 N10
    generalize svs.set nd _ = svs at i10 N10
    have N11 := fun q hq => N10 q (mem_drop1 q hq)
    clear N10
    have N10 : News s.heap L' h10 ((D, W.listOf svs.toArray 0) :: (ti, W.listOf tvs.toArray e2) :: (ia, W.listOf ivs.toArray e1) :: tl) := N11
    clear N11
    k_steps
    unfold Stop
    rename_i ca _ lca _ F11 N11
    have c1 : @Ne Nat D ca := Nat.ne_of_lt lca.1
    have c2 : @Ne Nat ti ca := Nat.ne_of_lt lca.2.1
    have c3 : @Ne Nat ia ca := Nat.ne_of_lt lca.2.2.1
    have c4 : ∀ q ∈ tl, @Ne Nat q.1 ca := fun q hq => Nat.ne_of_lt (allLt_mem lca.2.2.2 q hq)
    obtain ⟨tc1, N11⟩ : ∃ tc1, News s.heap L' _ ((ca, W.listOf #[Value.int 1 tc1] 0) :: (D, W.listOf svs.toArray 0) :: (ti, W.listOf tvs.toArray e2) :: (ia, W.listOf ivs.toArray e1) :: tl) := ⟨_, N11⟩
    with_unfolding_all refine' For_invVF F11 ?k1 ?k2 ?_
    case k1 => exact rfl
    case k2 => exact rfl
    k_steps
    unfold Stop
    rw [show (16 : Int) = ((16 : Nat) : Int) from rfl]
    rename Fr _ _ _ _ => F12
    rename News _ _ _ _ => N12
    refine' rangeN (m₀ := ?m2) (n := 16) (JW2 (tiesT t nd t.length).2 ((List.replicate (t.length + 1) 0).set nd 1) nd (t.length + 1) ia ti ca ((ti, W.listOf tvs.toArray e2) :: (ia, W.listOf ivs.toArray e1) :: tl) tl ?m2) rfl F12 N12 (by omega) ?h0 ?turn ?done
    case h0 =>
      exact ⟨_, _, _, _, D, svs, [_], 0, 0, map5_start rfl, rfl, i10, .cons _ _ .nil, Nat.le_refl _, by rw [standT, List.length_set, List.length_replicate], c1, d2, d3, lDa⟩
    case turn =>
      rintro J' hJ' ⟨h13, g13, dr13, tk13, os13⟩ I i tk0 m₁ news₁ o hi ⟨us, uu, ul, ug, sa, svs, cvs, es, ec, rfl, rfl, hsv, hcv, hcl, hsl, z1, z2, z3, z4⟩ hne F13 N13
      change Fr _ _ h13 _ at F13
      change News _ _ h13 _ at N13
      refine opq fun QQ hQQ => ?_
      generalize hsz : standT (tiesT t nd t.length).2 ((List.replicate (t.length + 1) 0).set nd 1) i = sz at hsv hsl
      have n1 : @Ne Nat ca I := hne _ (.head _)
      have n2 : @Ne Nat sa I := hne _ (.tail _ (.head _))
      have n3 : @Ne Nat ti I := hne _ (.tail _ (.tail _ (.head _)))
      have n4 : @Ne Nat ia I := hne _ (.tail _ (.tail _ (.tail _ (.head _))))
      have n5 : ∀ q ∈ tl, @Ne Nat q.1 I := fun q hq => hne q (.tail _ (.tail _ (.tail _ (.tail _ hq))))
      (try dsimp only)
      k_steps
      unfold Stop
      rename_i l0 _ _ _ _ ga _ _ _ i1 nn s1 e1' e2' e3' lG _ F14 N14
      have er : (List.replicate ((sz.length : Nat) : Int).toNat [(0 : Int)]).flatten = List.replicate sz.length 0 := by
        rw [Int.toNat_natCast, flat_rep]
      rw [er] at i1
      generalize List.flatten (_ : List (List Value)) = gvs at i1 N14
      have lGa : ∀ q ∈ tl, @Ne Nat q.1 ga := fun q hq => Nat.ne_of_lt (allLt_mem lG.2.2.2.2.2.2 q hq)
      have g1 : @Ne Nat I ga := Nat.ne_of_lt lG.2.1
      have g2 : @Ne Nat ca ga := Nat.ne_of_lt lG.2.2.1
      have g3 : @Ne Nat sa ga := Nat.ne_of_lt lG.2.2.2.1
      have g4 : @Ne Nat ti ga := Nat.ne_of_lt lG.2.2.2.2.1
      have g5 : @Ne Nat ia ga := Nat.ne_of_lt lG.2.2.2.2.2.1
      have N15 := fun q hq => N14 q (mem_drop1 q hq)
      clear N14
      have N14 : News s.heap L' _ ((ga, W.listOf gvs.toArray 0) :: (I, o) :: (ca, W.listOf cvs.toArray ec) :: (sa, W.listOf svs.toArray es) :: (ti, W.listOf tvs.toArray e2) :: (ia, W.listOf ivs.toArray e1) :: tl) := N15
      clear N15
      with_unfolding_all refine' For_turns F14 ?_
      k_steps
      unfold Stop
      rename Fr _ _ _ _ => F15
      rename News _ _ _ _ => N15
      refine' listTN (m₀ := ?m3) (JW3 (tiesT t nd t.length).2 sz (t.length + 1) ga ((I, o) :: (ca, W.listOf cvs.toArray ec) :: (sa, W.listOf svs.toArray es) :: (ti, W.listOf tvs.toArray e2) :: (ia, W.listOf ivs.toArray e1) :: tl) ?m3) rfl F15 N15 [(ti, W.listOf tvs.toArray e2)] ⟨_, News.get N15 (List.mem_of_getElem? (i := 4) rfl), rfl, e2, rfl⟩ (.inr (.head _)) (Ne.symm (N15 _ (List.mem_of_getElem? (i := 4) rfl)).2.1) ?hJc2 ?h02 ?turn2 ?done2
      case hJc2 =>
        rintro j m ns' ⟨uu, ul, gvs, eg, rfl, rfl, _⟩ q hq
        rw [List.mem_singleton.mp hq]; exact List.mem_of_getElem? (i := 4) rfl
      case h02 => exact ⟨_, _, gvs, 0, map2_start rfl, rfl, i1, by rw [List.take_zero, List.foldl_nil, List.length_replicate, hsl]⟩
      case turn2 =>
        rintro J2' hJ2' ⟨h16, g16, dr16, tk16, os16⟩ J j v m₂ news₂ o2 hj hv ⟨uu, ul, gvs, eg, rfl, rfl, hgv, hgl⟩ hne2 F16 N16
        change Fr _ _ h16 _ at F16
        change News _ _ h16 _ at N16
        have p1 : @Ne Nat ga J := hne2 _ (.head _)
        have p2 : @Ne Nat I J := hne2 _ (.tail _ (.head _))
        have p3 : @Ne Nat ca J := hne2 _ (.tail _ (.tail _ (.head _)))
        have p4 : @Ne Nat sa J := hne2 _ (.tail _ (.tail _ (.tail _ (.head _))))
        have p5 : @Ne Nat ti J := hne2 _ (.tail _ (.tail _ (.tail _ (.tail _ (.head _)))))
        have p6 : @Ne Nat ia J := hne2 _ (.tail _ (.tail _ (.tail _ (.tail _ (.tail _ (.head _))))))
        have p7 : ∀ q ∈ tl, @Ne Nat q.1 J := fun q hq => hne2 q (.tail _ (.tail _ (.tail _ (.tail _ (.tail _ (.tail _ hq))))))
        have hj' : j < (tiesT t nd t.length).2.length := by rw [← htv.len]; exact hj
        obtain ⟨lo, up, hp⟩ : ∃ lo up, (tiesT t nd t.length).2[j]? = some (lo, up) := ⟨_, _, List.getElem?_eq_getElem hj'⟩
        obtain ⟨T, u1, u2, ev, hm⟩ := htv.get hp
        have hv2 : v = .ref T := by
          rw [List.getElem?_toArray, ev] at hv
          exact (Option.some.inj hv).symm
        subst hv2
        obtain ⟨b1, b2⟩ := ties_bound t nd ht t.length (Nat.le_refl _) _ (List.mem_of_getElem? hp)
        have hgz : ((tiesT t nd t.length).2.take (j + 1)).foldl (goneStep sz) (List.replicate sz.length 0) = goneStep sz (((tiesT t nd t.length).2.take j).foldl (goneStep sz) (List.replicate sz.length 0)) (lo, up) := by
          rw [List.take_add_one, hp, Option.toList_some, List.foldl_append]; rfl
        generalize ((tiesT t nd t.length).2.take j).foldl (goneStep sz) (List.replicate sz.length 0) = gz at hgv hgl hgz
        refine unpackN_ F16 N16 ⟨_, News.get N16 (.tail _ (.tail _ (.tail _ (.tail _ (.tail _ (.tail _ (.tail _ hm))))))), rfl, 0, rfl⟩ rfl rfl rfl ?_
        intro h17 F17 N17
        (try dsimp only)
        k_steps
        rename_i F18 N18 i18 hl18 hs18
        rw [Int.toNat_natCast, Int.toNat_natCast] at i18 N18
        have e18 : goneStep sz gz (lo, up) = (gz.set lo (gz.getD lo 0 + sz.getD up 0)).set up ((gz.set lo (gz.getD lo 0 + sz.getD up 0)).getD up 0 + sz.getD lo 0) := rfl
        rw [← e18] at i18
        generalize List.set _ _ _ = gvs2 at i18 N18
        refine EndN.mk' ((ga, W.listOf gvs2.toArray eg) :: (I, o) :: (ca, W.listOf cvs.toArray ec) :: (sa, W.listOf svs.toArray es) :: (ti, W.listOf tvs.toArray e2) :: (ia, W.listOf ivs.toArray e1) :: tl) F18 N18 (.head _) (fun q hq => .tail _ hq) (List.forall_mem_cons.mpr ⟨p1, List.forall_mem_cons.mpr ⟨p2, List.forall_mem_cons.mpr ⟨p3, List.forall_mem_cons.mpr ⟨p4, List.forall_mem_cons.mpr ⟨p5, List.forall_mem_cons.mpr ⟨p6, p7⟩⟩⟩⟩⟩⟩) (hJ2' _ _ _ ?_)
        refine ⟨_, _, gvs2, eg, map2_turn, rfl, hgz ▸ i18, ?_⟩
        rw [hgz, e18, List.length_set, List.length_set, hgl]
      case done2 =>
        rintro m' news' h16 tk16 ⟨uu, ul, gvs, eg, rfl, rfl, hgv, hgl⟩ F16 N16
        rw [List.size_toArray, htv.len, List.take_length] at hgv hgl
        k_steps
        · rename ((i : Int).fmod 2 = 1) => hod
          have hod2 : i % 2 = 1 := by rw [show (2 : Int) = ((2 : Nat) : Int) from rfl, fmod_nat] at hod; omega
          have sz2 : cvs.toArray.size ≤ sizeLine := by rw [List.size_toArray, sizeLine_eq]; omega
          refine' append_K (its := cvs.toArray) (n := ec) ?q1 ?q2 ?q3 ?_ sz2
          case q1 => k_asm
          case q2 => k_asm
          case q3 => k_upd
          intro h18 F18 N18
          rw [List.push_toArray, Int.toNat_natCast] at N18
          k_steps
          have est : standT (tiesT t nd t.length).2 ((List.replicate (t.length + 1) 0).set nd 1) (i + 1) = (tiesT t nd t.length).2.foldl (goneStep sz) (List.replicate sz.length 0) := by rw [standT, hsz]; rfl
          have ect : countsT (tiesT t nd t.length).2 ((List.replicate (t.length + 1) 0).set nd 1) nd (i + 1) = countsT (tiesT t nd t.length).2 ((List.replicate (t.length + 1) 0).set nd 1) nd i ++ [((tiesT t nd t.length).2.foldl (goneStep sz) (List.replicate sz.length 0)).getD nd 0] := by rw [countsT_succ, est, if_pos hod2]
          refine hQQ _ _ (EndN.mk' ((ca, W.listOf (cvs ++ [_]).toArray (ec + 1)) :: (ga, W.listOf gvs.toArray eg) :: (ti, W.listOf tvs.toArray e2) :: (ia, W.listOf ivs.toArray e1) :: tl) F18 N18 (.tail _ (.head _)) mem_end6 (List.forall_mem_cons.mpr ⟨n1, List.forall_mem_cons.mpr ⟨Ne.symm g1, List.forall_mem_cons.mpr ⟨n3, List.forall_mem_cons.mpr ⟨n4, n5⟩⟩⟩⟩) (hJ' _ _ _ ?_))
          exact ⟨_, _, _, _, ga, gvs, cvs ++ [_], eg, ec + 1, map5_turn, rfl, est ▸ hgv, ect ▸ IntsAre.append hcv (.cons _ _ .nil), (by rw [List.length_append]; exact Nat.add_le_add_right hcl 1), est ▸ hgl, Ne.symm g2, g4, g5, lGa⟩
        · rename ¬ ((i : Int).fmod 2 = 1) => hod
          have hod2 : ¬ (i % 2 = 1) := by rw [show (2 : Int) = ((2 : Nat) : Int) from rfl, fmod_nat] at hod; omega
          rename Fr _ _ _ _ => F18
          rename News _ _ _ _ => N18
          have est : standT (tiesT t nd t.length).2 ((List.replicate (t.length + 1) 0).set nd 1) (i + 1) = (tiesT t nd t.length).2.foldl (goneStep sz) (List.replicate sz.length 0) := by rw [standT, hsz]; rfl
          have ect : countsT (tiesT t nd t.length).2 ((List.replicate (t.length + 1) 0).set nd 1) nd (i + 1) = countsT (tiesT t nd t.length).2 ((List.replicate (t.length + 1) 0).set nd 1) nd i := by rw [countsT_succ, est, if_neg hod2]
          refine hQQ _ _ (EndN.mk' ((ca, W.listOf cvs.toArray ec) :: (ga, W.listOf gvs.toArray eg) :: (ti, W.listOf tvs.toArray e2) :: (ia, W.listOf ivs.toArray e1) :: tl) F18 N18 (.tail _ (.head _)) mem_end6 (List.forall_mem_cons.mpr ⟨n1, List.forall_mem_cons.mpr ⟨Ne.symm g1, List.forall_mem_cons.mpr ⟨n3, List.forall_mem_cons.mpr ⟨n4, n5⟩⟩⟩⟩) (hJ' _ _ _ ?_))
          exact ⟨_, _, _, _, ga, gvs, cvs, eg, ec, map5_turn, rfl, est ▸ hgv, ect ▸ hcv, Nat.le_succ_of_le hcl, est ▸ hgl, Ne.symm g2, g4, g5, lGa⟩
    case done =>
      rintro m' news' h13 tk13 ⟨us, uu, ul, ug, sa, svs, cvs, es, ec, rfl, rfl, hsv, hcv, hcl, hsl, z1, z2, z3, z4⟩ F13 N13
      k_steps
      (try dsimp only)
      rename Fr _ _ _ _ => F14
      rename News _ _ _ _ => N14
      exact h _ _ _ cvs ec F14.keep (N14 _ (.head _)).2.2 (News.get N14 (.head _)) hcv
end

section
open PySem PySem.W PyProof.Rows PySem.Calls
theorem fill_F8 (w : World) : PySem.Challenge.rw_rt0101_01 = PySem.Challenge.rw_rt0101_01 ∨ Mine.hd.heap_1 w.params = [] := by
  k_fill
  exact Or.inl rfl
local macro_rules | `(tactic| walk_at "exec For Name Name cons nil") => `(tactic| (refine stop_it ?_))
local macro_rules | `(tactic| walk_at "pyIter ref") => `(tactic| (refine stop_it ?_))
theorem walksT_len (t : List Nat) (nd : Nat) : (walksT t nd).length = 9 := by
  unfold walksT
  simp only [countsT_succ, show (16 : Nat) = 0+1+1+1+1+1+1+1+1+1+1+1+1+1+1+1+1 from rfl]
  rfl
theorem ints_cons {vs : List Value} {n : Int} {ns : List Int} (h : IntsAre vs (n :: ns)) : ∃ t vs', vs = .int n t :: vs' ∧ IntsAre vs' ns := by
  cases h with
  | cons _ t h => exact ⟨t, _, rfl, h⟩
theorem ints_nil {vs : List Value} (h : IntsAre vs []) : vs = [] := by
  cases h; rfl
theorem ints_step {vs : List Value} {ns : List Int} {n : Nat} (h : IntsAre vs ns) (hl : ns.length = n + 1) : ∃ c t vs' ns', vs = .int c t :: vs' ∧ ns = c :: ns' ∧ IntsAre vs' ns' ∧ ns'.length = n := by
  cases h with
  | nil => cases hl
  | cons c t h => exact ⟨c, t, _, _, rfl, rfl, h, Nat.succ.inj hl⟩
inductive Nine (vs : List Value) (ns : List Int) : Prop
  | mk (c0 c1 c2 c3 c4 c5 c6 c7 c8 : Int) (t0 t1 t2 t3 t4 t5 t6 t7 t8 : Tok) : ns = [c0, c1, c2, c3, c4, c5, c6, c7, c8] → vs = [.int c0 t0, .int c1 t1, .int c2 t2, .int c3 t3, .int c4 t4, .int c5 t5, .int c6 t6, .int c7 t7, .int c8 t8] → Nine vs ns
theorem ints_nine {vs : List Value} {ns : List Int} (h : IntsAre vs ns) (hl : ns.length = 9) : Nine vs ns := by
  obtain ⟨_, _, _, _, rfl, rfl, h, hl⟩ := ints_step h hl
  obtain ⟨_, _, _, _, rfl, rfl, h, hl⟩ := ints_step h hl
  obtain ⟨_, _, _, _, rfl, rfl, h, hl⟩ := ints_step h hl
  obtain ⟨_, _, _, _, rfl, rfl, h, hl⟩ := ints_step h hl
  obtain ⟨_, _, _, _, rfl, rfl, h, hl⟩ := ints_step h hl
  obtain ⟨_, _, _, _, rfl, rfl, h, hl⟩ := ints_step h hl
  obtain ⟨_, _, _, _, rfl, rfl, h, hl⟩ := ints_step h hl
  obtain ⟨_, _, _, _, rfl, rfl, h, hl⟩ := ints_step h hl
  obtain ⟨_, _, _, _, rfl, rfl, h, hl⟩ := ints_step h hl
  obtain rfl := List.eq_nil_of_length_eq_zero hl
  obtain rfl := ints_nil h
  exact ⟨_, _, _, _, _, _, _, _, _, _, _, _, _, _, _, _, _, _, rfl, rfl⟩
/-- what is asked of one folder -/
def dueT (t : List Nat) (nd : Nat) : List Int × List Int := (((walksT t nd).take 5).reverse, if (walksT t nd).getD 1 0 = 0 then [] else ((walksT t nd).drop 5).reverse)
set_option maxHeartbeats 4000000 in
theorem due_spec {prog : Program} {w : World} {A : Around} {E : Value → Shared → Prop} {s : Shared} {p : Program} {loose : List Str} {mean : ExcName → Option Value} {mg mb : Str → Option Value} {H0 : Heap}
    (rm : Rm A 110) (G : Gnd w p loose mean mg mb H0) (k : H0.StaysIn s.heap)
    {ab : Addr} {avs : List Value} {t : List Nat} {nd : Nat} {tn : Tok} {Q : Value → Shared → Prop} (hl : s.heap.IsList ab avs.toArray) (hI : IntsAre avs (t.map Int.ofNat)) (hlen : t.length ≤ 6) (ht : TreeOk t) (hnd : nd ≤ t.length)
    (h : ∀ h' tk r a b va vb ea eb, s.heap.StaysIn h' → s.heap.get? r = none → s.heap.get? a = none → s.heap.get? b = none → h'.get? r = some (W.listOf #[.ref a, .ref b] 0) → h'.get? a = some (W.listOf va.toArray ea) → h'.get? b = some (W.listOf vb.toArray eb) →
      IntsAre va (dueT t nd).1 → IntsAre vb (dueT t nd).2 → Q (.ref r) { s with heap := h', toks := tk }) :
    wpAny (model prog w) A (call (.ref 298) [.ref ab, .int (nd : Int) tn] []) Q E s := by
  obtain ⟨hd, d, fr, gs, u⟩ := A
  obtain rfl : hd = none := rm.hh
  refine wpAny_call ?_
  w_on
  refine' enter_plain (M := []) (binds := [(Str.ofString "above", Value.ref ab), (Str.ofString "node", Value.int (nd : Int) tn)]) G k ?k6 ?k7 ?k8 (fun _ q => nomatch q) (fun _ q => nomatch q) ?k9 ?kB ?_ ?c5 ?c2 ?c3 ?c4
  walk_at "m_plain"
  intro L' h' g' hL hg kg F' N'
  obtain ⟨X', T', C1', C2'⟩ := G.keeps kg
  have hg2 : g' = s.heap := hg
  clear hg
  subst hg2
  dsimp only
  k_steps
  unfold Stop
  refine walks_spec (rm.less (by decide : 101 ≤ 110)).deeper G (fun b o e => F'.keep _ _ (kg _ _ e)) (let ⟨o, ho, r⟩ := hl; ⟨o, F'.keep _ _ ho, r⟩) hI hlen ht hnd ?_
  intro h2 tk2 r cvs e2 k2 gr getr ic
  have F2 := F'.keeps k2
  have N2 := newsAddF F' (N'.grown k2) getr gr
  obtain ⟨c0, c1, c2, c3, c4, c5, c6, c7, c8, t0, t1, t2, t3, t4, t5, t6, t7, t8, en, rfl⟩ := ints_nine ic (walksT_len t nd)
  k_steps
  · rename (c1 = 0) => hc
    dsimp only
    rename Fr _ _ _ _ => F3
    rename News _ _ _ _ => N3
    refine h _ _ _ _ _ _ [] _ 0 F3.keep (N3 _ (.head _)).2.2 (N3 _ (List.mem_of_getElem? (i := 2) rfl)).2.2 (N3 _ (List.mem_of_getElem? (i := 1) rfl)).2.2 (News.get N3 (.head _)) (News.get N3 (List.mem_of_getElem? (i := 2) rfl)) (News.get N3 (List.mem_of_getElem? (i := 1) rfl)) ?_ ?_
    · rw [dueT, en]; exact .cons _ _ (.cons _ _ (.cons _ _ (.cons _ _ (.cons _ _ .nil))))
    · rw [dueT, en, hc]; exact .nil
  · rename (c1 ≠ 0) => hc
    dsimp only
    rename Fr _ _ _ _ => F3
    rename News _ _ _ _ => N3
    refine h _ _ _ _ _ _ _ _ _ F3.keep (N3 _ (.head _)).2.2 (N3 _ (List.mem_of_getElem? (i := 2) rfl)).2.2 (N3 _ (List.mem_of_getElem? (i := 1) rfl)).2.2 (News.get N3 (.head _)) (News.get N3 (List.mem_of_getElem? (i := 2) rfl)) (News.get N3 (List.mem_of_getElem? (i := 1) rfl)) ?_ ?_
    · rw [dueT, en]; exact .cons _ _ (.cons _ _ (.cons _ _ (.cons _ _ (.cons _ _ .nil))))
    · rw [dueT, en]; show IntsAre _ (if c1 = 0 then _ else _); rw [if_neg hc]; exact .cons _ _ (.cons _ _ (.cons _ _ (.cons _ _ .nil)))
end

section
open PySem PySem.W PyProof.Rows PySem.Calls
theorem fill_S1 (w : World) : PySem.Challenge.rw_rt0101_01 = PySem.Challenge.rw_rt0101_01 ∨ Mine.hd.heap_1 w.params = [] := by
  k_fill
  exact Or.inl rfl
local macro_rules | `(tactic| walk_at "exec For Name Name cons nil") => `(tactic| (refine stop_it ?_))
local macro_rules | `(tactic| walk_at "pyIter ref") => `(tactic| (refine stop_it ?_))
local macro_rules | `(tactic| walk_at "exec For") => `(tactic| (refine stop_it ?_))
@[reducible] def sEnt (w : World) (n : Str) (t : Tok) (v : Value) : DictEntry := { hash := PyData.keyHash w.params n, key := .str n t, val := v }
@[reducible] def sDict (w : World) (t0 t1 t2 t3 : Tok) (d : Addr) (rv pv fv : Value) : Obj :=
  dictOf [sEnt w (Str.ofString "_node2info") t0 (.ref d), sEnt w (Str.ofString "_ready_nodes") t1 rv, sEnt w (Str.ofString "_npassedout") t2 pv, sEnt w (Str.ofString "_nfinished") t3 fv] 4
theorem fresh_hide2 {h0 g : Heap} {x y d : Addr} {o o2 : Obj} (hg : g = hideAll h0 ([(x, o), (y, o2)].map (·.1))) (e : g.get? d = none) (n1 : @Ne Nat d x) (n2 : @Ne Nat d y) : h0.get? d = none := by
  cases q : h0.get? d with
  | none => rfl
  | some z =>
    have : g.get? d = some z := by rw [hg]; exact hideAll_get _ q (by simp [n1, n2])
    rw [e] at this; cases this
theorem kept_but2 {h0 h g : Heap} {L x y : Addr} {m : Str → Option Value} {o o2 : Obj} (hg : g = hideAll h0 ([(x, o), (y, o2)].map (·.1))) (F : Fr g L h m) : ∀ b z, b ≠ x → b ≠ y → h0.get? b = some z → h.get? b = some z := fun b z n1 n2 e => by
  subst hg
  exact stays_of_hide F.keep (by simp [n1, n2]) e
set_option maxHeartbeats 4000000 in
theorem init_spec {prog : Program} {w : World} {A : Around} {s : Shared} {p : Program} {loose : List Str} {mean : ExcName → Option Value} {mg mb : Str → Option Value} {H0 : Heap}
    (rm : Rm A 20) (G : Gnd w p loose mean mg mb H0) (k : H0.StaysIn s.heap) {x dx : Addr} {R : Result → Shared → Prop} (hx : s.heap.get? x = some (instObj 172 dx)) (hdx : s.heap.get? dx = some emptyDict) (nx : H0.get? x = none) (ndx : H0.get? dx = none) (hxd : @LT.lt Nat _ dx x)
    (h : ∀ h' tk d o t0 t1 t2 t3 t4 t5, (∀ b y, b ≠ x → b ≠ dx → s.heap.get? b = some y → h'.get? b = some y) → h'.get? d = some o → s.heap.get? d = none → h'.get? x = some (instObj 172 dx) → h'.get? dx = some (sDict w t0 t1 t2 t3 d .none (.int 0 t4) (.int 0 t5)) →
      (d == sysModules) = false → o.IsDictOf (PySem.strKind prog w) [] → @LT.lt Nat _ x d → R (.ok (.ret .none)) { s with heap := h', toks := tk }) :
    codeAny (model prog w) A (.call (.ref 108) ⟨[.ref x], []⟩) R s := by
  obtain ⟨hd, d, fr, gs, u⟩ := A
  obtain rfl : hd = none := rm.hh
  refine' enter_plain (M := [(x, instObj 172 dx), (dx, emptyDict)]) (binds := [(Str.ofString "self", Value.ref x), (Str.ofString "graph", Value.none)]) G k ?k6 ?k7 ?k8 (List.forall_mem_cons.mpr ⟨hx, List.forall_mem_singleton.mpr hdx⟩) (List.forall_mem_cons.mpr ⟨nx, List.forall_mem_singleton.mpr ndx⟩) ?k9 ?kB ?_ ?c5 ?c2 ?c3 ?c4
  case k6 => k_is
  case k7 => k_is
  case k8 => exact Rm.room (by assumption)
  case k9 => exact binds_K (G.X.keeps k) rfl (by k_is) rfl rfl rfl
  case kB => exact locs rfl
  case c5 => decide
  case c2 => exact rfl
  case c3 => exact rfl
  case c4 => exact rfl
  intro L' h' g' hL hg kg F' N'
  obtain ⟨X', T', C1', C2'⟩ := G.keeps kg
  have hne : @Ne Nat x dx := Nat.ne_of_gt hxd
  k_steps
  rename_i d _ o lo hs fs _ _ l1 _ _ _ _ F9 N9
  obtain ⟨t0, t1, t2, t3, t4, t5, N9⟩ : ∃ t0 t1 t2 t3 t4 t5, News g' L' _ [(d, o), (x, instObj 172 dx), (dx, sDict w t0 t1 t2 t3 d .none (.int 0 t4) (.int 0 t5))] := ⟨_, _, _, _, _, _, N9⟩
  exact h _ _ d o t0 t1 t2 t3 t4 t5 (kept_but2 hg F9) (News.get N9 (.head _)) (fresh_hide2 hg (N9 _ (.head _)).2.2 (Nat.ne_of_gt l1.1) (Nat.ne_of_gt l1.2)) (News.get N9 (List.mem_of_getElem? (i := 1) rfl)) (News.get N9 (List.mem_of_getElem? (i := 2) rfl)) lo hs l1.1
end

section
open PySem PySem.W PyProof.Rows PySem.Calls
theorem fill_S2 (w : World) : PySem.Challenge.rw_rt0101_01 = PySem.Challenge.rw_rt0101_01 ∨ Mine.hd.heap_1 w.params = [] := by
  k_fill
  exact Or.inl rfl
local macro_rules | `(tactic| walk_at "exec For Name Name cons nil") => `(tactic| (refine stop_it ?_))
local macro_rules | `(tactic| walk_at "pyIter ref") => `(tactic| (refine stop_it ?_))
local macro_rules | `(tactic| walk_at "exec For") => `(tactic| (refine stop_it ?_))
local macro_rules | `(tactic| walk_at "setItem ref str") => `(tactic| (k_here; refine' kda_set (knd := PySem.strKind _ _) ?F ?N ?U ?d (strKind_is _ _ _ _) ?z ?_; (case F => k_asm); (case N => k_asm); (case U => k_updF); (case d => k_asm); (case z => assumption); intro h' o' F' N' hd'; (try dsimp only at N')))
@[reducible] def nObj (dx : Addr) (y : Str) (ty : Tok) (np : Value) (sl : Addr) : Obj := { cls := .ref 75, dict := some dx, data := .plain, slots := #[some (.str y ty), some np, some (.ref sl)] }
theorem Rm.make {A : Around} {k : Nat} {C : Addr} {vals : List Value} (r : Rm A (k + 1)) : Rm (A.under (.builtin "type.__call__" ⟨.ref C :: vals, []⟩)) k := by
  refine ⟨r.hh, by have := r.hd; show A.depth + 1 + k < 1000; omega, ?_⟩
  have := r.hu
  first
    | (show A.units + 16 * k < 9900; omega)
    | (show A.units + 1 + 16 * k < 9900; omega)
    | (show A.units + 2 + 16 * k < 9900; omega)
    | (show A.units + 3 + 16 * k < 9900; omega)
    | (show A.units + 4 + 16 * k < 9900; omega)
theorem fresh_hide3 {h0 g : Heap} {x y z d : Addr} {o o2 o3 : Obj} (hg : g = hideAll h0 ([(x, o), (y, o2), (z, o3)].map (·.1))) (e : g.get? d = none) (n1 : @Ne Nat d x) (n2 : @Ne Nat d y) (n3 : @Ne Nat d z) : h0.get? d = none := by
  cases q : h0.get? d with
  | none => rfl
  | some z =>
    have : g.get? d = some z := by rw [hg]; exact hideAll_get _ q (by simp [n1, n2, n3])
    rw [e] at this; cases this
set_option maxHeartbeats 4000000 in
theorem ninit_spec {prog : Program} {w : World} {A : Around} {s : Shared} {p : Program} {loose : List Str} {mean : ExcName → Option Value} {mg mb : Str → Option Value} {H0 : Heap}
    (rm : Rm A 20) (G : Gnd w p loose mean mg mb H0) (k : H0.StaysIn s.heap) {x dx : Addr} {y : Str} {ty : Tok} {R : Result → Shared → Prop} (hx : s.heap.get? x = some (instObj 75 dx)) (hdx : s.heap.get? dx = some emptyDict) (nx : H0.get? x = none) (ndx : H0.get? dx = none) (hxd : @LT.lt Nat _ dx x)
    (h : ∀ h' tk sl t, (∀ b z, b ≠ x → s.heap.get? b = some z → h'.get? b = some z) → h'.get? sl = some (W.listOf #[] 0) → s.heap.get? sl = none → h'.get? x = some (nObj dx y ty (.int 0 t) sl) → R (.ok (.ret .none)) { s with heap := h', toks := tk }) :
    codeAny (model prog w) A (.call (.ref 71) ⟨[.ref x, .str y ty], []⟩) R s := by
  obtain ⟨hd, d, fr, gs, u⟩ := A
  obtain rfl : hd = none := rm.hh
  refine' enter_plain (M := [(x, instObj 75 dx), (dx, emptyDict)]) (binds := [(Str.ofString "self", Value.ref x), (Str.ofString "node", Value.str y ty)]) G k ?k6 ?k7 ?k8 (List.forall_mem_cons.mpr ⟨hx, List.forall_mem_singleton.mpr hdx⟩) (List.forall_mem_cons.mpr ⟨nx, List.forall_mem_singleton.mpr ndx⟩) ?k9 ?kB ?_ ?c5 ?c2 ?c3 ?c4
  walk_at "m_plain"
  intro L' h' g' hL hg kg F' N'
  obtain ⟨X', T', C1', C2'⟩ := G.keeps kg
  have hne : @Ne Nat x dx := Nat.ne_of_gt hxd
  k_steps
  rename_i _ _ sl _ l1 _ F9 N9
  refine h _ _ sl _ (kept_but hg (List.forall_mem_singleton.mpr hdx) F9 (List.forall_mem_singleton.mpr (News.get N9 (List.mem_of_getElem? (i := 2) rfl)))) (News.get N9 (.head _)) (fresh_hide2 hg (N9 _ (.head _)).2.2 (Nat.ne_of_gt l1.1) (Nat.ne_of_gt l1.2)) (News.get N9 (List.mem_of_getElem? (i := 1) rfl))
set_option maxHeartbeats 4000000 in
theorem info_old {prog : Program} {w : World} {A : Around} {E : Value → Shared → Prop} {s : Shared} {p : Program} {loose : List Str} {mean : ExcName → Option Value} {mg mb : Str → Option Value} {H0 : Heap}
    (rm : Rm A 20) (G : Gnd w p loose mean mg mb H0) (k : H0.StaysIn s.heap) {x dx d inf : Addr} {o : Obj} {kvs : List (Str × Value)} {y : Str} {ty t0 t1 t2 t3 : Tok} {rv pv fv : Value} {Q : Value → Shared → Prop}
    (hx : s.heap.get? x = some (instObj 172 dx)) (hdx : s.heap.get? dx = some (sDict w t0 t1 t2 t3 d rv pv fv)) (hd : s.heap.get? d = some o) (ho : o.IsDictOf (PySem.strKind prog w) kvs) (lo : (d == sysModules) = false) (nx : H0.get? x = none) (ndx : H0.get? dx = none) (nd : H0.get? d = none)
    (hv : valueAt kvs y = some (.ref inf))
    (h : ∀ h' tk, s.heap.StaysIn h' → Q (.ref inf) { s with heap := h', toks := tk }) :
    wpAny (model prog w) A (call (.ref 115) [.ref x, .str y ty] []) Q E s := by
  obtain ⟨hd', d', fr, gs, u⟩ := A
  obtain rfl : hd' = none := rm.hh
  refine wpAny_call ?_
  w_on
  refine' enter_plain (M := [(x, instObj 172 dx), (dx, sDict w t0 t1 t2 t3 d rv pv fv), (d, o)]) (binds := [(Str.ofString "self", Value.ref x), (Str.ofString "node", Value.str y ty)]) G k ?k6 ?k7 ?k8 (List.forall_mem_cons.mpr ⟨hx, List.forall_mem_cons.mpr ⟨hdx, List.forall_mem_singleton.mpr hd⟩⟩) (List.forall_mem_cons.mpr ⟨nx, List.forall_mem_cons.mpr ⟨ndx, List.forall_mem_singleton.mpr nd⟩⟩) ?k9 ?kB ?_ ?c5 ?c2 ?c3 ?c4
  walk_at "m_plain"
  intro L' h' g' hL hg kg F' N'
  obtain ⟨X', T', C1', C2'⟩ := G.keeps kg
  dsimp only
  k_steps
  dsimp only
  rename Fr _ _ _ _ => F2
  rename News _ _ _ _ => N2
  exact h _ _ (kept_all hg (List.forall_mem_cons.mpr ⟨hx, List.forall_mem_cons.mpr ⟨hdx, List.forall_mem_singleton.mpr hd⟩⟩) F2 (fun q hq => (N2 q hq).1))
set_option maxHeartbeats 4000000 in
theorem info_new {prog : Program} {w : World} {A : Around} {E : Value → Shared → Prop} {s : Shared} {p : Program} {loose : List Str} {mean : ExcName → Option Value} {mg mb : Str → Option Value} {H0 : Heap}
    (rm : Rm A 30) (G : Gnd w p loose mean mg mb H0) (k : H0.StaysIn s.heap) {x dx d : Addr} {o : Obj} {kvs : List (Str × Value)} {y : Str} {ty t0 t1 t2 t3 : Tok} {rv pv fv : Value} {Q : Value → Shared → Prop}
    (hx : s.heap.get? x = some (instObj 172 dx)) (hdx : s.heap.get? dx = some (sDict w t0 t1 t2 t3 d rv pv fv)) (hd : s.heap.get? d = some o) (ho : o.IsDictOf (PySem.strKind prog w) kvs) (lo : (d == sysModules) = false) (nx : H0.get? x = none) (ndx : H0.get? dx = none) (nd : H0.get? d = none)
    (hv : valueAt kvs y = none) (hsz : kvs.length ≤ sizeLine) (hxd : @LT.lt Nat _ dx x) (hxd2 : @LT.lt Nat _ x d)
    (h : ∀ h' tk inf dxi sl t o', (∀ b z, b ≠ d → s.heap.get? b = some z → h'.get? b = some z) → h'.get? d = some o' → o'.IsDictOf (PySem.strKind prog w) (stored kvs y (.ref inf)) → h'.get? inf = some (nObj dxi y ty (.int 0 t) sl) → h'.get? sl = some (W.listOf #[] 0) →
      h'.get? dxi = some (dictOf [] 0) → s.heap.get? inf = none → s.heap.get? sl = none → s.heap.get? dxi = none → @Ne Nat inf sl → @Ne Nat dxi inf → @Ne Nat dxi sl → Q (.ref inf) { s with heap := h', toks := tk }) :
    wpAny (model prog w) A (call (.ref 115) [.ref x, .str y ty] []) Q E s := by
  obtain ⟨hd', d', fr, gs, u⟩ := A
  obtain rfl : hd' = none := rm.hh
  refine wpAny_call ?_
  w_on
  refine' enter_plain (M := [(d, o), (x, instObj 172 dx), (dx, sDict w t0 t1 t2 t3 d rv pv fv)]) (binds := [(Str.ofString "self", Value.ref x), (Str.ofString "node", Value.str y ty)]) G k ?k6 ?k7 ?k8 (List.forall_mem_cons.mpr ⟨hd, List.forall_mem_cons.mpr ⟨hx, List.forall_mem_singleton.mpr hdx⟩⟩) (List.forall_mem_cons.mpr ⟨nd, List.forall_mem_cons.mpr ⟨nx, List.forall_mem_singleton.mpr ndx⟩⟩) ?k9 ?kB ?_ ?c5 ?c2 ?c3 ?c4
  walk_at "m_plain"
  intro L' h' g' hL hg kg F' N'
  obtain ⟨X', T', C1', C2'⟩ := G.keeps kg
  have e1 : @Ne Nat dx x := Nat.ne_of_lt hxd
  have e2 : @Ne Nat x d := Nat.ne_of_lt hxd2
  have e3 : @Ne Nat dx d := Nat.ne_of_lt (Nat.lt_trans hxd hxd2)
  dsimp only
  k_steps
  unfold Stop
  rename Fr _ _ _ _ => F2
  rename News _ _ _ _ => N2
  refine' call_cls F2 X' N2 ?m1 ?m2 ?m3 ?_
  case m1 => k_is
  case m2 => k_is
  case m3 => k_is
  intro x2 dx2 h3 F3 N3 l1 l2
  refine ninit_spec (rm.less (by decide : 22 ≤ 30)).deeper.make G (fun b o e => F3.keep _ _ (kg _ _ e)) (News.get N3 (.head _)) (News.get N3 (List.mem_of_getElem? (i := 1) rfl)) (fresh_of_stays kg (N3 _ (.head _)).2.2) (fresh_of_stays kg (N3 _ (List.mem_of_getElem? (i := 1) rfl)).2.2) l2 ?_
  intro h4 tk4 sl tz k4 gsl fsl gx2
  refine ⟨rfl, ?_⟩
  dsimp only
  have hd2 : @LT.lt Nat _ d dx2 := l1 _ (.head _)
  have hx2 : @LT.lt Nat _ x dx2 := l1 _ (.tail _ (.head _))
  have hdx2 : @LT.lt Nat _ dx dx2 := l1 _ (.tail _ (.tail _ (.head _)))
  have m1 : @Ne Nat d dx2 := Nat.ne_of_lt hd2
  have m2 : @Ne Nat d x2 := Nat.ne_of_lt (Nat.lt_trans hd2 l2)
  have m3 : @Ne Nat x dx2 := Nat.ne_of_lt hx2
  have m4 : @Ne Nat x x2 := Nat.ne_of_lt (Nat.lt_trans hx2 l2)
  have m5 : @Ne Nat dx dx2 := Nat.ne_of_lt hdx2
  have m6 : @Ne Nat dx x2 := Nat.ne_of_lt (Nat.lt_trans hdx2 l2)
  obtain ⟨F4, N4⟩ := after_upd (pre := []) F3 N3 (fun _ q => nomatch q) (List.forall_mem_cons.mpr ⟨Nat.ne_of_lt l2, List.forall_mem_cons.mpr ⟨m2, List.forall_mem_cons.mpr ⟨m4, List.forall_mem_singleton.mpr m6⟩⟩⟩) k4 gx2
  simp only [List.nil_append] at N4
  have N4 := newsAddF F3 N4 gsl fsl
  have hss : @Ne Nat x2 sl := news_ne N3 fsl _ (.head _)
  have hds : @Ne Nat dx2 sl := news_ne N3 fsl _ (.tail _ (.head _))
  have m7 : @Ne Nat d sl := news_ne N3 fsl _ (List.mem_of_getElem? (i := 2) rfl)
  have m8 : @Ne Nat x sl := news_ne N3 fsl _ (List.mem_of_getElem? (i := 3) rfl)
  have m9 : @Ne Nat dx sl := news_ne N3 fsl _ (List.mem_of_getElem? (i := 4) rfl)
  k_steps
  dsimp only
  rename Fr _ _ _ _ => F9
  rename News _ _ _ _ => N9
  rename Obj.IsDictOf _ _ (stored _ _ _) => hd9
  refine h _ _ x2 dx2 sl tz _ (kept_but hg (List.forall_mem_cons.mpr ⟨hx, List.forall_mem_singleton.mpr hdx⟩) F9 (List.forall_mem_cons.mpr ⟨News.get N9 (List.mem_of_getElem? (i := 4) rfl), List.forall_mem_singleton.mpr (News.get N9 (List.mem_of_getElem? (i := 5) rfl))⟩)) (News.get N9 (List.mem_of_getElem? (i := 3) rfl)) hd9 (News.get N9 (List.mem_of_getElem? (i := 1) rfl)) (News.get N9 (.head _)) (News.get N9 (List.mem_of_getElem? (i := 2) rfl)) ?_ ?_ ?_ hss (Nat.ne_of_lt l2) hds
  · exact fresh_hide3 hg (N9 _ (List.mem_of_getElem? (i := 1) rfl)).2.2 (Ne.symm m2) (Ne.symm m4) (Ne.symm m6)
  · exact fresh_hide3 hg (N9 _ (.head _)).2.2 (Ne.symm m7) (Ne.symm m8) (Ne.symm m9)
  · exact fresh_hide3 hg (N9 _ (List.mem_of_getElem? (i := 2) rfl)).2.2 (Ne.symm m1) (Ne.symm m3) (Ne.symm m5)
end

section
open PySem PySem.W PyProof.Rows PySem.Calls
/-- one node of the sorter: its object, its dict, its list of successors -/
structure NR where
  inf : Addr
  dx : Addr
  sl : Addr
  y : Str
  ty : Tok
  np : Int
  tnp : Tok
  sv : List Value
  e : Nat
def ent (r : NR) : List (Addr × Obj) := [(r.inf, nObj r.dx r.y r.ty (.int r.np r.tnp) r.sl), (r.dx, dictOf [] 0), (r.sl, W.listOf r.sv.toArray r.e)]
def chunk (ns : List NR) : List (Addr × Obj) := ns.flatMap ent
def NR.as (r : NR) : List Addr := [r.inf, r.dx, r.sl]
def addrs (ns : List NR) : List Addr := ns.flatMap NR.as
theorem ent_as (r : NR) : (ent r).map (·.1) = r.as := rfl
theorem chunk_as (ns : List NR) : (chunk ns).map (·.1) = addrs ns := by
  induction ns with
  | nil => rfl
  | cons r ns ih =>
    show (List.flatMap ent (r :: ns)).map (·.1) = List.flatMap NR.as (r :: ns)
    rw [List.flatMap_cons, List.flatMap_cons, List.map_append, ent_as]
    exact congrArg (r.as ++ ·) ih
/-- the others -/
def but1 (ns : List NR) (i : Nat) : List NR := ns.take i ++ ns.drop (i + 1)
theorem split1 {ns : List NR} {i : Nat} {r : NR} (h : ns[i]? = some r) : ns = ns.take i ++ r :: ns.drop (i + 1) := by
  obtain ⟨hi, e⟩ := List.getElem?_eq_some_iff.mp h
  rw [← e, ← List.drop_eq_getElem_cons hi, List.take_append_drop]
theorem chunk_app (a b : List NR) : chunk (a ++ b) = chunk a ++ chunk b := List.flatMap_append ..
theorem addrs_app (a b : List NR) : addrs (a ++ b) = addrs a ++ addrs b := List.flatMap_append ..
theorem mem_chunk1 {ns : List NR} {i : Nat} {r : NR} (h : ns[i]? = some r) (q : Addr × Obj) : q ∈ chunk ns ↔ q ∈ ent r ++ chunk (but1 ns i) := by
  conv => lhs; rw [split1 h]
  rw [chunk_app, but1, chunk_app]
  show q ∈ chunk (ns.take i) ++ (ent r ++ chunk (ns.drop (i + 1))) ↔ _
  simp only [List.mem_append]
  constructor
  · rintro (h | h | h) <;> simp [h]
  · rintro (h | h | h) <;> simp [h]
theorem but1_set {ns : List NR} {i : Nat} (r' : NR) : but1 (ns.set i r') i = but1 ns i := by
  unfold but1
  rw [List.take_set_of_le (Nat.le_refl _), List.drop_set_of_lt (Nat.lt_succ_self _)]
theorem but1_map {ns : List NR} {i : Nat} {r : NR} (h : ns[i]? = some r) : (addrs ns).Perm (r.as ++ addrs (but1 ns i)) := by
  conv => lhs; rw [split1 h]
  rw [addrs_app, but1, addrs_app]
  show (addrs (ns.take i) ++ (r.as ++ addrs (ns.drop (i + 1)))).Perm _
  rw [← List.append_assoc, ← List.append_assoc]
  exact List.Perm.append_right _ List.perm_append_comm
theorem set_as {ns : List NR} {i : Nat} {r r' : NR} (h : ns[i]? = some r) (e : r'.as = r.as) : addrs (ns.set i r') = addrs ns := by
  conv => rhs; rw [split1 h]
  rw [List.set_eq_take_append_cons_drop, if_pos (List.getElem?_eq_some_iff.mp h).1, addrs_app, addrs_app]
  show _ ++ (r'.as ++ _) = _ ++ (r.as ++ _)
  rw [e]
theorem but1_get {ns : List NR} {i j : Nat} {r : NR} (h : ns[j]? = some r) (hij : j ≠ i) : ∃ j' : Nat, (but1 ns i)[j']? = some r := by
  rw [← List.mem_iff_getElem?, but1, List.mem_append]
  have hj := (List.getElem?_eq_some_iff.mp h).1
  rcases Nat.lt_or_gt_of_ne hij with h1 | h1
  · exact .inl (List.mem_iff_getElem?.mpr ⟨j, by rw [List.getElem?_take_of_lt h1]; exact h⟩)
  · exact .inr (List.mem_iff_getElem?.mpr ⟨j - (i + 1), by rw [List.getElem?_drop]; rw [show i + 1 + (j - (i + 1)) = j by omega]; exact h⟩)
/-- back from a call that turned the objects of S alone -/
theorem after_many {g h h' : Heap} {L : Addr} {m : Str → Option Value} {K S S' : List (Addr × Obj)} (F : Fr g L h m) (N : News g L h (K ++ S)) (hne : ∀ q ∈ K, q.1 ∉ S.map (·.1)) (hS : ∀ q ∈ S', q.1 ∈ S.map (·.1))
    (k : ∀ b x, b ∉ S.map (·.1) → h.get? b = some x → h'.get? b = some x) (hl : ∀ q ∈ S', h'.get? q.1 = some q.2) : Fr g L h' m ∧ News g L h' (K ++ S') := by
  have D : ∀ b ∈ S.map (·.1), b ≠ L ∧ g.get? b = none := by
    intro b hb
    obtain ⟨q, hq, rfl⟩ := List.mem_map.mp hb
    exact (N q (List.mem_append_right _ hq)).2
  obtain ⟨oL, es, ep, hL, r⟩ := F.ns
  refine ⟨⟨⟨oL, es, ep, k _ _ (fun hm => (D _ hm).1 rfl) hL, r⟩, fun b x q => k b x (fun hm => ?_) (F.keep b x q), F.above⟩, fun q hq => ?_⟩
  · rw [(D b hm).2] at q; cases q
  · rcases List.mem_append.mp hq with hq | hq
    · have n := N q (List.mem_append_left _ hq); exact ⟨k _ _ (hne q hq) n.1, n.2⟩
    · exact ⟨hl q hq, D _ (hS q hq)⟩
/-- what an entry with hidden objects M keeps -/
theorem kept_many {h0 h g : Heap} {L : Addr} {m : Str → Option Value} {M : List (Addr × Obj)} (hg : g = hideAll h0 (M.map (·.1))) (F : Fr g L h m) : ∀ b x, b ∉ M.map (·.1) → h0.get? b = some x → h.get? b = some x := fun b x hb e => by
  subst hg
  exact stays_of_hide F.keep hb e
theorem fresh_many {h0 g : Heap} {M : List (Addr × Obj)} {d : Addr} (hg : g = hideAll h0 (M.map (·.1))) (e : g.get? d = none) (hd : d ∉ M.map (·.1)) : h0.get? d = none := by
  cases q : h0.get? d with
  | none => rfl
  | some z =>
    have : g.get? d = some z := by rw [hg]; exact hideAll_get _ q hd
    rw [e] at this; cases this
theorem news_of {g h : Heap} {L : Addr} {a b : List (Addr × Obj)} (N : News g L h a) (hs : ∀ q ∈ b, q ∈ a) : News g L h b := fun q hq => N q (hs q hq)
end

section
open PySem PySem.W PyProof.Rows PySem.Calls
theorem fill_S4 (w : World) : PySem.Challenge.rw_rt0101_01 = PySem.Challenge.rw_rt0101_01 ∨ Mine.hd.heap_1 w.params = [] := by
  k_fill
  exact Or.inl rfl
theorem kept_but22 {h0 h g : Heap} {L l l2 : Addr} {m : Str → Option Value} {o o2 : Obj} {rest : List (Addr × Obj)} (hg : g = hideAll h0 (((l, o) :: (l2, o2) :: rest).map (·.1))) (hM : ∀ q ∈ rest, h0.get? q.1 = some q.2) (F : Fr g L h m) (hR : ∀ q ∈ rest, h.get? q.1 = some q.2) :
    ∀ b x, b ≠ l → b ≠ l2 → h0.get? b = some x → h.get? b = some x := fun b x hb hb2 e => by
  by_cases hr : b ∈ rest.map (·.1)
  · obtain ⟨q, hq, rfl⟩ := List.mem_map.mp hr
    rw [hM q hq] at e; cases e
    exact hR q hq
  · subst hg
    exact stays_of_hide F.keep (by rw [List.map_cons, List.map_cons, List.mem_cons, List.mem_cons]; exact fun q => q.elim hb (fun q => q.elim hb2 hr)) e
theorem notin_of {K M M' : List (Addr × Obj)} {a : Addr} (h : ∀ q ∈ K ++ M', @Ne Nat q.1 a) (e : M'.map (·.1) = M.map (·.1)) : a ∉ M.map (·.1) := fun hm => by
  rw [← e] at hm
  obtain ⟨q, hq, rfl⟩ := List.mem_map.mp hm
  exact h q (List.mem_append_right _ hq) rfl
def kvsOf (ns : List NR) : List (Str × Value) := ns.map fun r => (r.y, Value.ref r.inf)
set_option maxHeartbeats 4000000 in
theorem add_more {prog : Program} {w : World} {A : Around} {E : Value → Shared → Prop} {s : Shared} {p : Program} {loose : List Str} {mean : ExcName → Option Value} {mg mb : Str → Option Value} {H0 : Heap}
    (rm : Rm A 50) (G : Gnd w p loose mean mg mb H0) (k : H0.StaysIn s.heap) {x dx d : Addr} {o : Obj} {kvs : List (Str × Value)} {r : NR} {yc : Str} {tp tc t0 t1 t2 t3 : Tok} {pv fv : Value} {Q : Value → Shared → Prop}
    (hx : s.heap.get? x = some (instObj 172 dx)) (hdx : s.heap.get? dx = some (sDict w t0 t1 t2 t3 d .none pv fv)) (hd : s.heap.get? d = some o) (ho : o.IsDictOf (PySem.strKind prog w) kvs) (lo : (d == sysModules) = false) (nx : H0.get? x = none) (ndx : H0.get? dx = none) (nd : H0.get? d = none)
    (hi : s.heap.get? r.inf = some (nObj r.dx r.y r.ty (.int r.np r.tnp) r.sl)) (hi2 : s.heap.get? r.dx = some (dictOf [] 0)) (ni : H0.get? r.inf = none) (ni2 : H0.get? r.dx = none)
    (q1 : @LT.lt Nat _ dx x) (q2 : @LT.lt Nat _ x d) (q3 : @Ne Nat r.inf x) (q4 : @Ne Nat r.inf dx) (q5 : @Ne Nat r.inf d) (q6 : @Ne Nat r.dx r.inf) (q7 : @Ne Nat r.dx d)
    (hv : valueAt kvs r.y = some (.ref r.inf)) (hv2 : valueAt kvs yc = none) (hsz : kvs.length ≤ 100)
    (h : ∀ h' tk o' (c : NR) tnp, (∀ b z, b ≠ d → b ≠ r.inf → s.heap.get? b = some z → h'.get? b = some z) → h'.get? d = some o' → o'.IsDictOf (PySem.strKind prog w) (stored kvs yc (.ref c.inf)) → h'.get? r.inf = some (nObj r.dx r.y r.ty (.int (r.np + 1) tnp) r.sl) →
      c.y = yc → c.np = 0 → c.sv = [.str r.y tp] → (∀ q ∈ ent c, h'.get? q.1 = some q.2) → (∀ a ∈ c.as, s.heap.get? a = none) → c.as.Nodup → Q .none { s with heap := h', toks := tk }) :
    wpAny (model prog w) A (call (.ref 122) [.ref x, .str r.y tp, .str yc tc] []) Q E s := by
  obtain ⟨hd', d', fr, gs, u⟩ := A
  obtain rfl : hd' = none := rm.hh
  refine wpAny_call ?_
  w_on
  refine' enter_rest (M := [(d, o), (r.inf, nObj r.dx r.y r.ty (.int r.np r.tnp) r.sl), (x, instObj 172 dx), (dx, sDict w t0 t1 t2 t3 d .none pv fv), (r.dx, dictOf [] 0)]) G k ?k6 ?k7 ?k8
    (List.forall_mem_cons.mpr ⟨hd, List.forall_mem_cons.mpr ⟨hi, List.forall_mem_cons.mpr ⟨hx, List.forall_mem_cons.mpr ⟨hdx, List.forall_mem_singleton.mpr hi2⟩⟩⟩⟩) (List.forall_mem_cons.mpr ⟨nd, List.forall_mem_cons.mpr ⟨ni, List.forall_mem_cons.mpr ⟨nx, List.forall_mem_cons.mpr ⟨ndx, List.forall_mem_singleton.mpr ni2⟩⟩⟩⟩) ?kP ?kG ?kB ?_ ?c5 ?c2 ?c3 ?c4
  walk_at "m_rest"
  intro D L' h' g' hD hL hg kg F' N' hMD
  obtain ⟨X', T', C1', C2'⟩ := G.keeps kg
  have N' : News g' L' h' ((D, { cls := .type "tuple", data := .seq #[.str yc tc] }) :: [(d, o), (r.inf, nObj r.dx r.y r.ty (.int r.np r.tnp) r.sl), (x, instObj 172 dx), (dx, sDict w t0 t1 t2 t3 d .none pv fv), (r.dx, dictOf [] 0)]) := N'
  have e1 : @Ne Nat dx x := Nat.ne_of_lt q1
  have e2 : @Ne Nat x d := Nat.ne_of_lt q2
  have e3 : @Ne Nat dx d := Nat.ne_of_lt (Nat.lt_trans q1 q2)
  dsimp only
  k_steps
  unfold Stop
  have hk1 : H0.StaysIn h' := fun b o e => F'.keep _ _ (kg _ _ e)
  refine info_old (rm.less (by decide : 21 ≤ 50)).deeper G hk1 (News.get N' (List.mem_of_getElem? (i := 3) rfl)) (News.get N' (List.mem_of_getElem? (i := 4) rfl)) (News.get N' (List.mem_of_getElem? (i := 1) rfl)) ho lo nx ndx nd hv ?_
  intro h2 tk2 k2
  have F2 := F'.keeps k2
  have N2 := N'.grown k2
  have w1 : @Ne Nat D d := Nat.ne_of_gt (hMD _ (.head _))
  have w2 : @Ne Nat D r.inf := Nat.ne_of_gt (hMD _ (.tail _ (.head _)))
  have w3 : @Ne Nat D x := Nat.ne_of_gt (hMD _ (List.mem_of_getElem? (i := 2) rfl))
  have w4 : @Ne Nat D dx := Nat.ne_of_gt (hMD _ (List.mem_of_getElem? (i := 3) rfl))
  have w5 : @Ne Nat D r.dx := Nat.ne_of_gt (hMD _ (List.mem_of_getElem? (i := 4) rfl))
  k_steps
  unfold Stop
  rename_i it l3 _ _ _ oi hci _ F3 N3
  have hk3 : H0.StaysIn _ := fun b o e => F3.keep _ _ (kg _ _ e)
  refine info_new (rm.less (by decide : 31 ≤ 50)).deeper G hk3 (News.get N3 (List.mem_of_getElem? (i := 4) rfl)) (News.get N3 (List.mem_of_getElem? (i := 5) rfl)) (News.get N3 (List.mem_of_getElem? (i := 2) rfl)) ho lo nx ndx nd hv2 (Nat.le_trans hsz (by rw [sizeLine_eq]; decide)) q1 q2 ?_
  intro h4 tk4 inf dxi sl tz o4 k4 gd4 ho4 ginf gsl gdx finf fsl fdx u1 u2 u3
  obtain ⟨F4, N4⟩ := after_upd (pre := [_, _]) F3 N3 (List.forall_mem_cons.mpr ⟨Nat.ne_of_gt l3.2.1, List.forall_mem_singleton.mpr w1⟩) (List.forall_mem_cons.mpr ⟨q5, List.forall_mem_cons.mpr ⟨e2, List.forall_mem_cons.mpr ⟨e3, List.forall_mem_singleton.mpr q7⟩⟩⟩) k4 gd4
  simp only [List.cons_append, List.nil_append] at N4
  have N4 := newsAddF F3 (newsAddF F3 (newsAddF F3 N4 gdx fdx) gsl fsl) ginf finf
  have zi := news_ne N3 finf
  have zs := news_ne N3 fsl
  have zd := news_ne N3 fdx
  have z1 := zs _ (.head _)
  have z2 := zs _ (.tail _ (.head _))
  have z3 := zs _ (List.mem_of_getElem? (i := 2) rfl)
  have z4 := zs _ (List.mem_of_getElem? (i := 3) rfl)
  have z5 := zs _ (List.mem_of_getElem? (i := 4) rfl)
  have z6 := zs _ (List.mem_of_getElem? (i := 5) rfl)
  have z7 := zs _ (List.mem_of_getElem? (i := 6) rfl)
  have z1 : @Ne Nat it sl := z1
  have z2 : @Ne Nat D sl := z2
  have z3 : @Ne Nat d sl := z3
  have z4 : @Ne Nat r.inf sl := z4
  have z5 : @Ne Nat x sl := z5
  have z6 : @Ne Nat dx sl := z6
  have z7 : @Ne Nat r.dx sl := z7
  k_steps
  refine' append_K (its := #[]) (n := 0) ?g1 ?g2 ?g3 ?_ (by rw [sizeLine_eq]; decide)
  case g1 => k_asm
  case g2 => k_asm
  case g3 => k_upd
  intro h6 F6 N6
  k_steps
  dsimp only
  rename_i F9 N9
  refine h _ _ o4 ⟨inf, dxi, sl, yc, tc, 0, tz, [.str r.y tp], 1⟩ _ (kept_but22 hg (List.forall_mem_cons.mpr ⟨hx, List.forall_mem_cons.mpr ⟨hdx, List.forall_mem_singleton.mpr hi2⟩⟩) F9 (List.forall_mem_cons.mpr ⟨News.get N9 (List.mem_of_getElem? (i := 6) rfl), List.forall_mem_cons.mpr ⟨News.get N9 (List.mem_of_getElem? (i := 7) rfl), List.forall_mem_singleton.mpr (News.get N9 (List.mem_of_getElem? (i := 8) rfl))⟩⟩)) (News.get N9 (List.mem_of_getElem? (i := 4) rfl)) ho4 (News.get N9 (List.mem_of_getElem? (i := 5) rfl)) rfl rfl rfl
    (List.forall_mem_cons.mpr ⟨News.get N9 (.head _), List.forall_mem_cons.mpr ⟨News.get N9 (List.mem_of_getElem? (i := 2) rfl), List.forall_mem_singleton.mpr (News.get N9 (List.mem_of_getElem? (i := 1) rfl))⟩⟩) ?_ ?_
  · refine List.forall_mem_cons.mpr ⟨fresh_many hg (N9 _ (.head _)).2.2 (notin_of (K := [_, _]) zi rfl), List.forall_mem_cons.mpr ⟨fresh_many hg (N9 _ (List.mem_of_getElem? (i := 2) rfl)).2.2 (notin_of (K := [_, _]) zd rfl), List.forall_mem_singleton.mpr (fresh_many hg (N9 _ (List.mem_of_getElem? (i := 1) rfl)).2.2 (notin_of (K := [_, _]) zs rfl))⟩⟩
  · show [inf, dxi, sl].Nodup
    simp only [List.nodup_cons, List.mem_cons, List.not_mem_nil, or_false, not_or, not_false_eq_true, List.nodup_nil, and_true]
    exact ⟨⟨Ne.symm u2, u1⟩, u3⟩
end

section
open PySem PySem.W PyProof.Rows PySem.Calls
def NR.key (r : NR) : Addr × Addr × Addr × Str × Tok × List Value × Nat := (r.inf, r.dx, r.sl, r.y, r.ty, r.sv, r.e)
theorem key_as {a b : NR} (h : a.key = b.key) : a.as = b.as := by
  simp only [NR.key, Prod.mk.injEq] at h
  simp [NR.as, h]
theorem keys_addrs : ∀ {a b : List NR}, a.map NR.key = b.map NR.key → addrs a = addrs b
  | [], [], _ => rfl
  | [], _ :: _, h => by simp at h
  | _ :: _, [], h => by simp at h
  | x :: a, y :: b, h => by
    simp only [List.map_cons, List.cons.injEq] at h
    show x.as ++ addrs a = y.as ++ addrs b
    rw [key_as h.1, keys_addrs h.2]
theorem keys_kvs : ∀ {a b : List NR}, a.map NR.key = b.map NR.key → kvsOf a = kvsOf b
  | [], [], _ => rfl
  | [], _ :: _, h => by simp at h
  | _ :: _, [], h => by simp at h
  | x :: a, y :: b, h => by
    simp only [List.map_cons, List.cons.injEq, NR.key, Prod.mk.injEq] at h
    show (x.y, Value.ref x.inf) :: kvsOf a = (y.y, Value.ref y.inf) :: kvsOf b
    rw [keys_kvs h.2, h.1.1, h.1.2.2.2.1]
theorem keys_get {a b : List NR} (h : a.map NR.key = b.map NR.key) {i : Nat} {r : NR} (e : b[i]? = some r) : ∃ r', a[i]? = some r' ∧ r'.key = r.key := by
  have h2 : (a.map NR.key)[i]? = some r.key := by rw [h, List.getElem?_map, e]; rfl
  rw [List.getElem?_map] at h2
  cases q : a[i]? with
  | none => rw [q] at h2; cases h2
  | some r' => rw [q] at h2; exact ⟨r', rfl, Option.some.inj h2⟩
theorem keys_set {a b : List NR} (h : a.map NR.key = b.map NR.key) {i : Nat} {r r' : NR} (e : a[i]? = some r) (hk : r'.key = r.key) : (a.set i r').map NR.key = b.map NR.key := by
  rw [List.map_set, h, hk]
  apply List.ext_getElem?
  intro j
  rw [List.getElem?_set]
  split
  · rename_i hj
    subst hj
    have h2 : (b.map NR.key)[i]? = some r.key := by rw [← h, List.getElem?_map, e]; rfl
    rw [h2, if_pos (List.getElem?_eq_some_iff.mp h2).1]
  · rfl
theorem nodup_split {ns : List NR} (nd : (addrs ns).Nodup) {i : Nat} {r : NR} (h : ns[i]? = some r) : @Ne Nat r.inf r.dx ∧ @Ne Nat r.inf r.sl ∧ @Ne Nat r.dx r.sl ∧
    (∀ q ∈ chunk (but1 ns i), @Ne Nat q.1 r.inf) ∧ (∀ q ∈ chunk (but1 ns i), @Ne Nat q.1 r.dx) ∧ (∀ q ∈ chunk (but1 ns i), @Ne Nat q.1 r.sl) := by
  have h2 := (but1_map h).nodup_iff.mp nd
  rw [show r.as = [r.inf, r.dx, r.sl] from rfl] at h2
  simp only [List.cons_append, List.nil_append, List.nodup_cons, List.mem_cons, not_or] at h2
  obtain ⟨⟨a1, a2, a3⟩, ⟨b1, b2⟩, c1, _⟩ := h2
  have key : ∀ {z : Addr}, z ∉ addrs (but1 ns i) → ∀ q ∈ chunk (but1 ns i), @Ne Nat q.1 z := fun hz q hq e => hz (by
    rw [← chunk_as, ← e]; exact List.mem_map_of_mem hq)
  exact ⟨a1, a2, b1, key a3, key b2, key c1⟩
theorem as_mem {ns : List NR} {i : Nat} {r : NR} (h : ns[i]? = some r) : r.inf ∈ addrs ns ∧ r.dx ∈ addrs ns ∧ r.sl ∈ addrs ns := by
  have hm := List.mem_of_getElem? h
  refine ⟨List.mem_flatMap.mpr ⟨r, hm, ?_⟩, List.mem_flatMap.mpr ⟨r, hm, ?_⟩, List.mem_flatMap.mpr ⟨r, hm, ?_⟩⟩ <;> simp [NR.as]
theorem valueAt_cons (y z : Str) (v : Value) (l : List (Str × Value)) : valueAt ((y, v) :: l) z = if y = z then some v else valueAt l z := by
  unfold valueAt
  rw [List.find?_cons]
  by_cases h : y = z
  · simp [h]
  · simp [h]
theorem valueAt_kvs : ∀ {ns : List NR}, (ns.map (·.y)).Nodup → ∀ {i : Nat} {r : NR}, ns[i]? = some r → valueAt (kvsOf ns) r.y = some (.ref r.inf)
  | [], _, i, r, h => by simp at h
  | a :: l, ny, i, r, h => by
    rw [List.map_cons, List.nodup_cons] at ny
    show valueAt ((a.y, Value.ref a.inf) :: kvsOf l) r.y = _
    rw [valueAt_cons]
    cases i with
    | zero => simp at h; subst h; rw [if_pos rfl]
    | succ i =>
      rw [List.getElem?_cons_succ] at h
      rw [if_neg (fun e => ny.1 (by rw [e]; exact List.mem_map_of_mem (List.mem_of_getElem? h)))]
      exact valueAt_kvs ny.2 h
theorem valueAt_none : ∀ {ns : List NR} {z : Str}, z ∉ ns.map (·.y) → valueAt (kvsOf ns) z = none
  | [], _, _ => rfl
  | a :: l, z, h => by
    rw [List.map_cons, List.mem_cons, not_or] at h
    show valueAt ((a.y, Value.ref a.inf) :: kvsOf l) z = _
    rw [valueAt_cons, if_neg (Ne.symm h.1)]
    exact valueAt_none h.2
theorem stored_new {kvs : List (Str × Value)} {z : Str} {v : Value} (h : valueAt kvs z = none) : stored kvs z v = kvs ++ [(z, v)] := by
  unfold stored
  rw [if_neg]
  intro hc
  obtain ⟨kv, hm, he⟩ := List.any_eq_true.mp hc
  unfold valueAt at h
  rw [Option.map_eq_none_iff, List.find?_eq_none] at h
  exact h kv hm he
theorem kvs_app (a : List NR) (r : NR) : kvsOf (a ++ [r]) = kvsOf a ++ [(r.y, Value.ref r.inf)] := by
  unfold kvsOf; rw [List.map_append]; rfl
theorem chunk_ne_tuple {h : Heap} {ns : List NR} {D : Addr} {its : Array Value} (S : ∀ q ∈ chunk ns, h.get? q.1 = some q.2) (e : h.get? D = some { cls := .type "tuple", data := .seq its }) : ∀ q ∈ chunk ns, @Ne Nat q.1 D := by
  intro q hq he
  have h1 := S q hq
  rw [he, e] at h1
  have h2 := Option.some.inj h1
  obtain ⟨r, _, hr⟩ := List.mem_flatMap.mp hq
  simp only [ent, List.mem_cons, List.not_mem_nil, or_false] at hr
  rcases hr with rfl | rfl | rfl
  · injection h2 with h3; cases h3
  · injection h2 with h3; exact absurd h3 (by decide)
  · injection h2 with h3; exact absurd h3 (by decide)
end

section
open PySem PySem.W PyProof.Rows PySem.Calls
theorem mem_chunk {ns : List NR} {q : Addr × Obj} : q ∈ chunk ns ↔ ∃ (j : Nat) (r : NR), ns[j]? = some r ∧ q ∈ ent r := by
  constructor
  · intro h
    obtain ⟨r, hr, hq⟩ := List.mem_flatMap.mp h
    obtain ⟨j, hj⟩ := List.mem_iff_getElem?.mp hr
    exact ⟨j, r, hj, hq⟩
  · rintro ⟨j, r, hj, hq⟩
    exact List.mem_flatMap.mpr ⟨r, List.mem_of_getElem? hj, hq⟩
/-- the nodes but for those of S -/
def restS (ns : List NR) (S : List Nat) : List (Addr × Obj) := ((List.range ns.length).filter fun j => !S.contains j).flatMap fun j => (ns[j]?).elim [] ent
theorem mem_restS {ns : List NR} {S : List Nat} {q : Addr × Obj} : q ∈ restS ns S ↔ ∃ (j : Nat) (r : NR), ns[j]? = some r ∧ j ∉ S ∧ q ∈ ent r := by
  unfold restS
  rw [List.mem_flatMap]
  constructor
  · rintro ⟨j, hj, hq⟩
    rw [List.mem_filter] at hj
    cases e : ns[j]? with
    | none => rw [e] at hq; cases hq
    | some r => rw [e] at hq; exact ⟨j, r, e, by simpa using hj.2, hq⟩
  · rintro ⟨j, r, e, hs, hq⟩
    refine ⟨j, List.mem_filter.mpr ⟨List.mem_range.mpr (List.getElem?_eq_some_iff.mp e).1, by simpa using hs⟩, ?_⟩
    rw [e]; exact hq
theorem apart {ns : List NR} (nd : (addrs ns).Nodup) {i j : Nat} {a b : NR} (ha : ns[i]? = some a) (hb : ns[j]? = some b) (hij : j ≠ i) : ∀ z ∈ a.as, z ∉ b.as := by
  intro z hz hzb
  have h2 := (but1_map ha).nodup_iff.mp nd
  obtain ⟨j', hj'⟩ := but1_get hb hij
  have hm : z ∈ addrs (but1 ns i) := List.mem_flatMap.mpr ⟨b, List.mem_of_getElem? hj', hzb⟩
  exact (List.nodup_append.mp h2).2.2 z hz z hm rfl
theorem rest_ne {ns : List NR} (nd : (addrs ns).Nodup) {S : List Nat} {i : Nat} {a : NR} (ha : ns[i]? = some a) (hi : i ∈ S) : ∀ z ∈ a.as, ∀ q ∈ restS ns S, @Ne Nat q.1 z := by
  intro z hz q hq e
  obtain ⟨j, r, hj, hs, hr⟩ := mem_restS.mp hq
  refine apart nd ha hj (fun he => hs (he ▸ hi)) z hz ?_
  rw [← e, ← ent_as]; exact List.mem_map_of_mem hr
theorem rest_sub {ns : List NR} {S : List Nat} : ∀ q ∈ restS ns S, q ∈ chunk ns := fun q hq => by
  obtain ⟨j, r, hj, _, hr⟩ := mem_restS.mp hq
  exact mem_chunk.mpr ⟨j, r, hj, hr⟩
theorem ent_sub {ns : List NR} {i : Nat} {r : NR} (h : ns[i]? = some r) : ∀ q ∈ ent r, q ∈ chunk ns := fun _ hq => mem_chunk.mpr ⟨i, r, h, hq⟩
/-- put back one node -/
theorem back1 {ns : List NR} {i : Nat} {r' : NR} : ∀ q ∈ chunk (ns.set i r'), q ∈ ent r' ∨ q ∈ restS ns [i] := fun q hq => by
  obtain ⟨j, r, hj, hr⟩ := mem_chunk.mp hq
  rw [List.getElem?_set] at hj
  split at hj
  · split at hj
    · cases Option.some.inj hj; exact .inl hr
    · cases hj
  · rename_i hne
    exact .inr (mem_restS.mpr ⟨j, r, hj, by simpa using Ne.symm hne, hr⟩)
/-- put back two nodes -/
theorem back2 {ns : List NR} {i k : Nat} {a' b' : NR} : ∀ q ∈ chunk ((ns.set i a').set k b'), q ∈ ent a' ∨ q ∈ ent b' ∨ q ∈ restS ns [i, k] := fun q hq => by
  obtain ⟨j, r, hj, hr⟩ := mem_chunk.mp hq
  rw [List.getElem?_set] at hj
  split at hj
  · split at hj
    · cases Option.some.inj hj; exact .inr (.inl hr)
    · cases hj
  · rename_i hne
    rw [List.getElem?_set] at hj
    split at hj
    · split at hj
      · cases Option.some.inj hj; exact .inl hr
      · cases hj
    · rename_i hne2
      exact .inr (.inr (mem_restS.mpr ⟨j, r, hj, by simp only [List.mem_cons, List.not_mem_nil, or_false, not_or]; exact ⟨Ne.symm hne2, Ne.symm hne⟩, hr⟩))
/-- one node done: its mark, and one less to wait for where it lies in -/
def doneS (t : List Nat) (s : List Int × List Nat) (v : Nat) : List Int × List Nat :=
  match v with
  | 0 => (s.1.set 0 (-2), s.2)
  | u + 1 => (((s.1.set (u + 1) (-2)).set (t.getD u 0) ((s.1.set (u + 1) (-2)).getD (t.getD u 0) 0 - 1)),
      if (s.1.set (u + 1) (-2)).getD (t.getD u 0) 0 - 1 = 0 then s.2 ++ [t.getD u 0] else s.2)
end

section
open PySem PySem.W PyProof.Rows PySem.Calls
theorem fill_S5 (w : World) : PySem.Challenge.rw_rt0101_01 = PySem.Challenge.rw_rt0101_01 ∨ Mine.hd.heap_1 w.params = [] := by
  k_fill
  exact Or.inl rfl
set_option maxHeartbeats 4000000 in
theorem add_first {prog : Program} {w : World} {A : Around} {E : Value → Shared → Prop} {s : Shared} {p : Program} {loose : List Str} {mean : ExcName → Option Value} {mg mb : Str → Option Value} {H0 : Heap}
    (rm : Rm A 50) (G : Gnd w p loose mean mg mb H0) (k : H0.StaysIn s.heap) {x dx d : Addr} {o : Obj} {kvs : List (Str × Value)} {yp yc : Str} {tp tc t0 t1 t2 t3 : Tok} {pv fv : Value} {Q : Value → Shared → Prop}
    (hx : s.heap.get? x = some (instObj 172 dx)) (hdx : s.heap.get? dx = some (sDict w t0 t1 t2 t3 d .none pv fv)) (hd : s.heap.get? d = some o) (ho : o.IsDictOf (PySem.strKind prog w) kvs) (lo : (d == sysModules) = false) (nx : H0.get? x = none) (ndx : H0.get? dx = none) (nd : H0.get? d = none)
    (q1 : @LT.lt Nat _ dx x) (q2 : @LT.lt Nat _ x d) (hv : valueAt kvs yp = none) (hv2 : ∀ i, valueAt (stored kvs yp (.ref i)) yc = none) (hsz : kvs.length ≤ 100) (hsz2 : ∀ i, (stored kvs yp (.ref i)).length ≤ 100)
    (h : ∀ h' tk o' (r c : NR), (∀ b z, b ≠ d → s.heap.get? b = some z → h'.get? b = some z) → h'.get? d = some o' → o'.IsDictOf (PySem.strKind prog w) (stored (stored kvs yp (.ref r.inf)) yc (.ref c.inf)) →
      r.y = yp → r.np = 1 → r.sv = [] → c.y = yc → c.np = 0 → c.sv = [.str yp tp] → (∀ q ∈ ent r, h'.get? q.1 = some q.2) → (∀ q ∈ ent c, h'.get? q.1 = some q.2) → (∀ a ∈ r.as, s.heap.get? a = none) → (∀ a ∈ c.as, s.heap.get? a = none) → (r.as ++ c.as).Nodup → Q .none { s with heap := h', toks := tk }) :
    wpAny (model prog w) A (call (.ref 122) [.ref x, .str yp tp, .str yc tc] []) Q E s := by
  obtain ⟨hd', d', fr, gs, u⟩ := A
  obtain rfl : hd' = none := rm.hh
  refine wpAny_call ?_
  w_on
  refine' enter_rest (M := [(d, o), (x, instObj 172 dx), (dx, sDict w t0 t1 t2 t3 d .none pv fv)]) G k ?k6 ?k7 ?k8
    (List.forall_mem_cons.mpr ⟨hd, List.forall_mem_cons.mpr ⟨hx, List.forall_mem_singleton.mpr hdx⟩⟩) (List.forall_mem_cons.mpr ⟨nd, List.forall_mem_cons.mpr ⟨nx, List.forall_mem_singleton.mpr ndx⟩⟩) ?kP ?kG ?kB ?_ ?c5 ?c2 ?c3 ?c4
  walk_at "m_rest"
  intro D L' h' g' hD hL hg kg F' N' hMD
  obtain ⟨X', T', C1', C2'⟩ := G.keeps kg
  have N' : News g' L' h' ((D, { cls := .type "tuple", data := .seq #[.str yc tc] }) :: [(d, o), (x, instObj 172 dx), (dx, sDict w t0 t1 t2 t3 d .none pv fv)]) := N'
  have e1 : @Ne Nat dx x := Nat.ne_of_lt q1
  have e2 : @Ne Nat x d := Nat.ne_of_lt q2
  have e3 : @Ne Nat dx d := Nat.ne_of_lt (Nat.lt_trans q1 q2)
  dsimp only
  k_steps
  unfold Stop
  have hk1 : H0.StaysIn h' := fun b o e => F'.keep _ _ (kg _ _ e)
  refine info_new (rm.less (by decide : 31 ≤ 50)).deeper G hk1 (News.get N' (List.mem_of_getElem? (i := 2) rfl)) (News.get N' (List.mem_of_getElem? (i := 3) rfl)) (News.get N' (List.mem_of_getElem? (i := 1) rfl)) ho lo nx ndx nd hv (Nat.le_trans hsz (by rw [sizeLine_eq]; decide)) q1 q2 ?_
  intro h2 tk2 in0 dx0 sl0 tz0 o2 k2 gd2 ho2 ginf0 gsl0 gdx0 finf0 fsl0 fdx0 v1 v2 v3
  have w1 : @Ne Nat D d := Nat.ne_of_gt (hMD _ (.head _))
  have w3 : @Ne Nat D x := Nat.ne_of_gt (hMD _ (List.mem_of_getElem? (i := 1) rfl))
  have w4 : @Ne Nat D dx := Nat.ne_of_gt (hMD _ (List.mem_of_getElem? (i := 2) rfl))
  have yi := news_ne N' finf0
  have ys := news_ne N' fsl0
  have yd := news_ne N' fdx0
  obtain ⟨F2, N2⟩ := after_upd (pre := [_]) F' N' (List.forall_mem_singleton.mpr w1) (List.forall_mem_cons.mpr ⟨e2, List.forall_mem_singleton.mpr e3⟩) k2 gd2
  simp only [List.cons_append, List.nil_append] at N2
  have N2 := newsAddF F' (newsAddF F' (newsAddF F' N2 gdx0 fdx0) gsl0 fsl0) ginf0 finf0
  have y1 : @Ne Nat D in0 := yi _ (.head _)
  have y2 : @Ne Nat d in0 := yi _ (List.mem_of_getElem? (i := 1) rfl)
  have y3 : @Ne Nat x in0 := yi _ (List.mem_of_getElem? (i := 2) rfl)
  have y4 : @Ne Nat dx in0 := yi _ (List.mem_of_getElem? (i := 3) rfl)
  k_steps
  unfold Stop
  rename_i it l3 _ _ _ oi hci _ F3 N3
  have hk3 : H0.StaysIn _ := fun b o e => F3.keep _ _ (kg _ _ e)
  refine info_new (rm.less (by decide : 31 ≤ 50)).deeper G hk3 (News.get N3 (List.mem_of_getElem? (i := 6) rfl)) (News.get N3 (List.mem_of_getElem? (i := 7) rfl)) (News.get N3 (List.mem_of_getElem? (i := 5) rfl)) ho2 lo nx ndx nd (hv2 in0) (Nat.le_trans (hsz2 in0) (by rw [sizeLine_eq]; decide)) q1 q2 ?_
  intro h4 tk4 inf dxi sl tz o4 k4 gd4 ho4 ginf gsl gdx finf fsl fdx u1 u2 u3
  have y6 : @Ne Nat sl0 d := Ne.symm (ys _ (List.mem_of_getElem? (i := 1) rfl))
  have y7 : @Ne Nat dx0 d := Ne.symm (yd _ (List.mem_of_getElem? (i := 1) rfl))
  obtain ⟨F4, N4⟩ := after_upd (pre := [_, _, _, _, _]) F3 N3 (List.forall_mem_cons.mpr ⟨Nat.ne_of_gt l3.2.2.2.2.1, List.forall_mem_cons.mpr ⟨Ne.symm y2, List.forall_mem_cons.mpr ⟨y6, List.forall_mem_cons.mpr ⟨y7, List.forall_mem_singleton.mpr w1⟩⟩⟩⟩) (List.forall_mem_cons.mpr ⟨e2, List.forall_mem_singleton.mpr e3⟩) k4 gd4
  simp only [List.cons_append, List.nil_append] at N4
  have N4 := newsAddF F3 (newsAddF F3 (newsAddF F3 N4 gdx fdx) gsl fsl) ginf finf
  have zi := news_ne N3 finf
  have zs := news_ne N3 fsl
  have zd := news_ne N3 fdx
  have z1 : @Ne Nat it sl := zs _ (.head _)
  have z2 : @Ne Nat in0 sl := zs _ (.tail _ (.head _))
  have z3 : @Ne Nat sl0 sl := zs _ (List.mem_of_getElem? (i := 2) rfl)
  have z4 : @Ne Nat dx0 sl := zs _ (List.mem_of_getElem? (i := 3) rfl)
  have z5 : @Ne Nat D sl := zs _ (List.mem_of_getElem? (i := 4) rfl)
  have z6 : @Ne Nat d sl := zs _ (List.mem_of_getElem? (i := 5) rfl)
  have z7 : @Ne Nat x sl := zs _ (List.mem_of_getElem? (i := 6) rfl)
  have z8 : @Ne Nat dx sl := zs _ (List.mem_of_getElem? (i := 7) rfl)
  k_steps
  refine' append_K (its := #[]) (n := 0) ?g1 ?g2 ?g3 ?_ (by rw [sizeLine_eq]; decide)
  case g1 => k_asm
  case g2 => k_asm
  case g3 => k_upd
  intro h6 F6 N6
  k_steps
  dsimp only
  rename_i F9 N9
  refine h _ _ o4 ⟨in0, dx0, sl0, yp, tp, 1, _, [], 0⟩ ⟨inf, dxi, sl, yc, tc, 0, tz, [.str yp tp], 1⟩ (kept_but hg (List.forall_mem_cons.mpr ⟨hx, List.forall_mem_singleton.mpr hdx⟩) F9 (List.forall_mem_cons.mpr ⟨News.get N9 (List.mem_of_getElem? (i := 8) rfl), List.forall_mem_singleton.mpr (News.get N9 (List.mem_of_getElem? (i := 9) rfl))⟩)) (News.get N9 (List.mem_of_getElem? (i := 7) rfl)) ho4 rfl rfl rfl rfl rfl rfl
    (List.forall_mem_cons.mpr ⟨News.get N9 (List.mem_of_getElem? (i := 3) rfl), List.forall_mem_cons.mpr ⟨News.get N9 (List.mem_of_getElem? (i := 5) rfl), List.forall_mem_singleton.mpr (News.get N9 (List.mem_of_getElem? (i := 4) rfl))⟩⟩)
    (List.forall_mem_cons.mpr ⟨News.get N9 (.head _), List.forall_mem_cons.mpr ⟨News.get N9 (List.mem_of_getElem? (i := 2) rfl), List.forall_mem_singleton.mpr (News.get N9 (List.mem_of_getElem? (i := 1) rfl))⟩⟩) ?_ ?_ ?_
  · refine List.forall_mem_cons.mpr ⟨fresh_many hg (N9 _ (List.mem_of_getElem? (i := 3) rfl)).2.2 (notin_of (K := [_]) yi rfl), List.forall_mem_cons.mpr ⟨fresh_many hg (N9 _ (List.mem_of_getElem? (i := 5) rfl)).2.2 (notin_of (K := [_]) yd rfl), List.forall_mem_singleton.mpr (fresh_many hg (N9 _ (List.mem_of_getElem? (i := 4) rfl)).2.2 (notin_of (K := [_]) ys rfl))⟩⟩
  · refine List.forall_mem_cons.mpr ⟨fresh_many hg (N9 _ (.head _)).2.2 (notin_of (K := [_, _, _, _, _]) zi rfl), List.forall_mem_cons.mpr ⟨fresh_many hg (N9 _ (List.mem_of_getElem? (i := 2) rfl)).2.2 (notin_of (K := [_, _, _, _, _]) zd rfl), List.forall_mem_singleton.mpr (fresh_many hg (N9 _ (List.mem_of_getElem? (i := 1) rfl)).2.2 (notin_of (K := [_, _, _, _, _]) zs rfl))⟩⟩
  · have zi1 : @Ne Nat in0 inf := zi _ (.tail _ (.head _))
    have zi2 : @Ne Nat sl0 inf := zi _ (List.mem_of_getElem? (i := 2) rfl)
    have zi3 : @Ne Nat dx0 inf := zi _ (List.mem_of_getElem? (i := 3) rfl)
    have zd1 : @Ne Nat in0 dxi := zd _ (.tail _ (.head _))
    have zd2 : @Ne Nat sl0 dxi := zd _ (List.mem_of_getElem? (i := 2) rfl)
    have zd3 : @Ne Nat dx0 dxi := zd _ (List.mem_of_getElem? (i := 3) rfl)
    show [in0, dx0, sl0, inf, dxi, sl].Nodup
    simp only [List.nodup_cons, List.mem_cons, List.not_mem_nil, or_false, not_or, not_false_eq_true, List.nodup_nil, and_true]
    exact ⟨⟨Ne.symm v2, v1, zi1, zd1, z2⟩, ⟨v3, zi3, zd3, z4⟩, ⟨zi2, zd2, z3⟩, ⟨Ne.symm u2, u1⟩, u3⟩
end

section
open PySem PySem.W PyProof.Rows PySem.Calls
theorem fill_S6 (w : World) : PySem.Challenge.rw_rt0101_01 = PySem.Challenge.rw_rt0101_01 ∨ Mine.hd.heap_1 w.params = [] := by
  k_fill
  exact Or.inl rfl
local macro_rules | `(tactic| walk_at "exec For") => `(tactic| (refine stop_it ?_))
local macro_rules | `(tactic| walk_at "pyIter ref") => `(tactic| (refine stop_it ?_))
theorem meets_bool_list (l : Addr) (items : Array Value) (hfit : (items.size : Int) < 2 ^ 63) :
    Meets (Builtin.«bool.__new__» ⟨[.type "bool", .ref l], []⟩) (fun _ R s => s.heap.IsList l items ∧ R (.ok (.ret (.bool (!items.isEmpty)))) { s with toks := s.toks + 1 + 1 }) :=
  Meets.of_wp fun prog w A R s hs => by
    obtain ⟨hl, hs⟩ := hs
    obtain ⟨hp, g, d, tk, os⟩ := s
    have f1 := F.conv_sub_bool
    repeat (any_goals (first | assumption | (with_reducible refine wpAny_truthy_list hl hfit ?_) | wp_step))
    all_goals first | exact ⟨_, rfl, hs⟩ | exact hs | skip
theorem call_bool_list {prog : Program} {w : World} {A : Around} {E : Value → Shared → Prop} {s : Shared} {l : Addr} {items : Array Value} {Q : Value → Shared → Prop} (hl : s.heap.IsList l items) (hfit : (items.size : Int) < 2 ^ 63) (h : Q (.bool (!items.isEmpty)) { s with toks := s.toks + 1 + 1 }) :
    wpAny (model prog w) A (call (.type "bool") [.ref l]) Q E s :=
  call_bool_1 (meets_bool_list l items hfit) ⟨hl, (show wants (fun obj s₁ => s₁.TypeIs obj "bool" ∧ Q obj s₁) E _ _ from ⟨rfl, h⟩)⟩
set_option maxHeartbeats 4000000 in
theorem active_spec {prog : Program} {w : World} {A : Around} {E : Value → Shared → Prop} {s : Shared} {p : Program} {loose : List Str} {mean : ExcName → Option Value} {mg mb : Str → Option Value} {H0 : Heap}
    (rm : Rm A 50) (G : Gnd w p loose mean mg mb H0) (k : H0.StaysIn s.heap) {x dx d rl : Addr} {t0 t1 t2 t3 t4 t5 : Tok} {pn fn : Int} {rvs : List Value} {ep : Nat} {Q : Value → Shared → Prop}
    (hx : s.heap.get? x = some (instObj 172 dx)) (hdx : s.heap.get? dx = some (sDict w t0 t1 t2 t3 d (.ref rl) (.int pn t4) (.int fn t5))) (hrl : s.heap.get? rl = some (W.listOf rvs.toArray ep)) (nx : H0.get? x = none) (ndx : H0.get? dx = none) (nrl : H0.get? rl = none)
    (hsz : rvs.length ≤ 100) (hpf : ¬ fn < pn)
    (h : ∀ h' tk, s.heap.StaysIn h' → Q (.bool (decide (0 < rvs.length))) { s with heap := h', toks := tk }) :
    wpAny (model prog w) A (call (.ref 141) [.ref x] []) Q E s := by
  obtain ⟨hd', d', fr, gs, u⟩ := A
  obtain rfl : hd' = none := rm.hh
  refine wpAny_call ?_
  w_on
  refine' enter_plain (M := [(x, instObj 172 dx), (dx, sDict w t0 t1 t2 t3 d (.ref rl) (.int pn t4) (.int fn t5)), (rl, W.listOf rvs.toArray ep)]) (binds := [(Str.ofString "self", Value.ref x)]) G k ?k6 ?k7 ?k8 (List.forall_mem_cons.mpr ⟨hx, List.forall_mem_cons.mpr ⟨hdx, List.forall_mem_singleton.mpr hrl⟩⟩) (List.forall_mem_cons.mpr ⟨nx, List.forall_mem_cons.mpr ⟨ndx, List.forall_mem_singleton.mpr nrl⟩⟩) ?k9 ?kB ?_ ?c5 ?c2 ?c3 ?c4
  walk_at "m_plain"
  intro L' h' g' hL hg kg F' N'
  obtain ⟨X', T', C1', C2'⟩ := G.keeps kg
  k_steps
  refine call_bool_list (items := rvs.toArray) ⟨_, News.get (by assumption) (List.mem_of_getElem? (i := 2) rfl), rfl, ep, rfl⟩ (by rw [List.size_toArray]; omega) ?_
  k_steps
  dsimp only
  rename Fr _ _ _ _ => F2
  rename News _ _ _ _ => N2
  have eb : (!rvs.toArray.isEmpty) = decide (0 < rvs.length) := by
    cases rvs with
    | nil => rfl
    | cons a l => rfl
  rw [eb]
  exact h _ _ (kept_all hg (List.forall_mem_cons.mpr ⟨hx, List.forall_mem_cons.mpr ⟨hdx, List.forall_mem_singleton.mpr hrl⟩⟩) F2 (fun q hq => (N2 q hq).1))
end

section
open PySem PySem.W PyProof.Rows PySem.Calls
theorem fill_S7 (w : World) : PySem.Challenge.rw_rt0101_01 = PySem.Challenge.rw_rt0101_01 ∨ Mine.hd.heap_1 w.params = [] := by
  k_fill
  exact Or.inl rfl
local macro_rules | `(tactic| walk_at "exec For") => `(tactic| (refine stop_it ?_))
local macro_rules | `(tactic| walk_at "pyIter ref") => `(tactic| (refine stop_it ?_))
inductive JS7 (w : World) (x dx d rl D : Addr) (t0 t1 t2 t3 t4 t5 : Tok) (pn fn : Int) (rvs : List Value) (ep : Nat) (o : Obj) (ns : List NR) (bt : List Nat) (m0 : Str → Option Value) (i : Nat) (m : Str → Option Value) (news : List (Addr × Obj)) : Prop
  | mk (un : Option Value) (nsI : List NR) : m = (fun y => if y = Str.ofString "node" then un else m0 y) →
      news = (D, { cls := .type "tuple", data := .seq rvs.toArray }) :: (x, instObj 172 dx) :: (dx, sDict w t0 t1 t2 t3 d (.ref rl) (.int pn t4) (.int fn t5)) :: (d, o) :: (rl, W.listOf rvs.toArray ep) :: chunk nsI →
      nsI.map NR.key = ns.map NR.key → nsI.map (·.np) = (bt.take i).foldl (fun np v => np.set v (-1)) (ns.map (·.np)) → JS7 w x dx d rl D t0 t1 t2 t3 t4 t5 pn fn rvs ep o ns bt m0 i m news
set_option maxHeartbeats 4000000 in
theorem ready_spec {prog : Program} {w : World} {A : Around} {E : Value → Shared → Prop} {s : Shared} {p : Program} {loose : List Str} {mean : ExcName → Option Value} {mg mb : Str → Option Value} {H0 : Heap}
    (rm : Rm A 50) (G : Gnd w p loose mean mg mb H0) (k : H0.StaysIn s.heap) {x dx d rl : Addr} {o : Obj} {ns : List NR} {t0 t1 t2 t3 t4 t5 : Tok} {pn fn : Int} {rvs : List Value} {bt : List Nat} {ep : Nat} {Q : Value → Shared → Prop}
    (S : ∀ q ∈ (x, instObj 172 dx) :: (dx, sDict w t0 t1 t2 t3 d (.ref rl) (.int pn t4) (.int fn t5)) :: (d, o) :: (rl, W.listOf rvs.toArray ep) :: chunk ns, s.heap.get? q.1 = some q.2)
    (Sn : ∀ q ∈ (x, instObj 172 dx) :: (dx, sDict w t0 t1 t2 t3 d (.ref rl) (.int pn t4) (.int fn t5)) :: (d, o) :: (rl, W.listOf rvs.toArray ep) :: chunk ns, H0.get? q.1 = none)
    (nd : (x :: dx :: d :: rl :: addrs ns).Nodup) (ho : o.IsDictOf (PySem.strKind prog w) (kvsOf ns)) (lo : (d == sysModules) = false)
    (hsz : rvs.length ≤ 100) (hpos : 0 < rvs.length) (ny : (ns.map (·.y)).Nodup) (hbt : rvs.length = bt.length) (hr : ∀ (i b : Nat), bt[i]? = some b → ∃ (r : NR) (t : Tok), ns[b]? = some r ∧ rvs[i]? = some (Value.str r.y t))
    (h : ∀ h' tk r nsI u0 u1 u2 u3 u4 u5, (∀ b z, b ∉ x :: dx :: d :: rl :: addrs ns → s.heap.get? b = some z → h'.get? b = some z) → h'.get? r = some { cls := .type "tuple", data := .seq rvs.toArray } → s.heap.get? r = none →
      (∀ q ∈ (x, instObj 172 dx) :: (dx, sDict w u0 u1 u2 u3 d (.ref rl) (.int (pn + rvs.length) u4) (.int fn u5)) :: (d, o) :: (rl, W.listOf #[] (ep + 1)) :: chunk nsI, h'.get? q.1 = some q.2) → nsI.map NR.key = ns.map NR.key → nsI.map (·.np) = bt.foldl (fun np v => np.set v (-1)) (ns.map (·.np)) → Q (.ref r) { s with heap := h', toks := tk }) :
    wpAny (model prog w) A (call (.ref 134) [.ref x] []) Q E s := by
  obtain ⟨hd', d', fr, gs, u⟩ := A
  obtain rfl : hd' = none := rm.hh
  refine wpAny_call ?_
  w_on
  refine' enter_plain (M := (x, instObj 172 dx) :: (dx, sDict w t0 t1 t2 t3 d (.ref rl) (.int pn t4) (.int fn t5)) :: (d, o) :: (rl, W.listOf rvs.toArray ep) :: chunk ns) (binds := [(Str.ofString "self", Value.ref x)]) G k ?k6 ?k7 ?k8 S Sn ?k9 ?kB ?_ ?c5 ?c2 ?c3 ?c4
  walk_at "m_plain"
  intro L' h' g' hL hg kg F' N'
  obtain ⟨X', T', C1', C2'⟩ := G.keeps kg
  obtain ⟨nd1, nd'⟩ := List.nodup_cons.mp nd
  obtain ⟨nd2, nd'⟩ := List.nodup_cons.mp nd'
  obtain ⟨nd3, nd'⟩ := List.nodup_cons.mp nd'
  obtain ⟨nd4, nd5⟩ := List.nodup_cons.mp nd'
  clear nd' nd
  have e1 : @Ne Nat x dx := fun e => nd1 (e ▸ .head _)
  have e2 : @Ne Nat x d := fun e => nd1 (e ▸ .tail _ (.head _))
  have e3 : @Ne Nat x rl := fun e => nd1 (e ▸ .tail _ (.tail _ (.head _)))
  have e4 : @Ne Nat dx d := fun e => nd2 (e ▸ .head _)
  have e5 : @Ne Nat dx rl := fun e => nd2 (e ▸ .tail _ (.head _))
  have e6 : @Ne Nat d rl := fun e => nd3 (e ▸ .head _)
  have nA1 : x ∉ addrs ns := fun h => nd1 (.tail _ (.tail _ (.tail _ h)))
  have nA2 : dx ∉ addrs ns := fun h => nd2 (.tail _ (.tail _ h))
  have nA3 : d ∉ addrs ns := fun h => nd3 (.tail _ h)
  k_steps
  unfold Stop
  rename_i D _ _ _ _ F5 N5
  with_unfolding_all refine' For_invVF F5 ?k1 ?k2 ?_
  case k1 => exact rfl
  case k2 => exact rfl
  k_steps
  unfold Stop
  rename Fr _ _ _ _ => F6
  rename News _ _ _ _ => N6
  have gD := News.get N6 (.head _)
  have dD1 : @Ne Nat D x := ne_of_data gD (News.get N6 (List.mem_of_getElem? (i := 1) rfl)) (by intro q; cases q)
  have dD2 : @Ne Nat D dx := ne_of_data gD (News.get N6 (List.mem_of_getElem? (i := 2) rfl)) (by intro q; cases q)
  have dD4 : @Ne Nat D rl := fun e => by
    have h1 := News.get N6 (List.mem_of_getElem? (i := 4) rfl)
    rw [← e, gD] at h1
    have h2 := congrArg Obj.cls (Option.some.inj h1)
    exact absurd h2 (show Value.type "tuple" ≠ Value.type "list" by decide)
  have dD6 : @Ne Nat D d := fun e => by
    have h1 := News.get N6 (List.mem_of_getElem? (i := 3) rfl)
    rw [← e, gD] at h1
    have h2 := Option.some.inj h1
    obtain ⟨_, _, hx, _⟩ := ho
    rw [← h2] at hx
    exact absurd hx.1 (show Value.type "tuple" ≠ Value.type "dict" by decide)
  have dD5 : ∀ q ∈ chunk ns, @Ne Nat q.1 D := chunk_ne_tuple (fun q hq => (N6 q (.tail _ (.tail _ (.tail _ (.tail _ (.tail _ hq)))))).1) gD
  refine' tupleN (m₀ := ?m) (its := rvs.toArray) (JS7 w x dx d rl D t0 t1 t2 t3 t4 t5 pn fn rvs ep o ns bt ?m) rfl F6 N6 [(D, { cls := .type "tuple", data := .seq rvs.toArray })] ⟨_, gD, rfl, 0, rfl⟩ (.inr (.head _)) (Ne.symm (N6 _ (.head _)).2.1) ?hJc ?h0 ?turn ?done
  case hJc =>
    rintro i m news ⟨un, nsI, rfl, rfl, _⟩ q hq
    rw [List.mem_singleton.mp hq]; exact .head _
  case h0 => exact ⟨_, ns, map1_start rfl, rfl, rfl, rfl⟩
  case turn =>
    rintro J' hJ' ⟨h7, g7, dr7, tk7, os7⟩ I i v m₁ news₁ o2 hi hv ⟨un, nsI, rfl, rfl, hk, hnp⟩ hne F7 N7
    change Fr g' L' h7 _ at F7
    change News g' L' h7 _ at N7
    refine opq fun QQ hQQ => ?_
    have hib : i < bt.length := by rw [← hbt]; exact hi
    obtain ⟨r, tv, hr1, hr2⟩ := hr i _ (List.getElem?_eq_getElem hib)
    rw [List.getElem?_toArray, hr2] at hv
    obtain rfl := (Option.some.inj hv).symm
    obtain ⟨rI, hrI, hkI⟩ := keys_get hk hr1
    have hval := valueAt_kvs ny hr1
    simp only [NR.key, Prod.mk.injEq] at hkI
    obtain ⟨j1, j2, j3, j4, j5, j6, j7⟩ := hkI
    rw [← j1] at hval
    have ad := keys_addrs hk
    have am := as_mem hrI
    rw [ad] at am
    obtain ⟨s1, s2, s3, s4, s5, s6⟩ := nodup_split (by rw [ad]; exact nd5) hrI
    have hsub : ∀ q ∈ ent rI ++ chunk (but1 nsI _), q ∈ chunk nsI := fun q hq => (mem_chunk1 hrI q).mpr hq
    have b1 : @Ne Nat x rI.inf := fun e => nA1 (e ▸ am.1)
    have b2 : @Ne Nat dx rI.inf := fun e => nA2 (e ▸ am.1)
    have b3 : @Ne Nat d rI.inf := fun e => nA3 (e ▸ am.1)
    have b4 : @Ne Nat rl rI.inf := fun e => nd4 (e ▸ am.1)
    have b5 : @Ne Nat D rI.inf := Ne.symm (chunk_ne_tuple (fun q hq => (N7 q (.tail _ (.tail _ (.tail _ (.tail _ (.tail _ (.tail _ hq))))))).1) (News.get N7 (.tail _ (.head _))) _ (hsub _ (.head _)))
    have b6 : @Ne Nat rI.inf I := hne _ (.tail _ (.tail _ (.tail _ (.tail _ (.tail _ (hsub _ (.head _)))))))
    have N8 : News g' L' h7 ((I, o2) :: (D, { cls := .type "tuple", data := .seq rvs.toArray }) :: (x, instObj 172 dx) :: (dx, sDict w t0 t1 t2 t3 d (.ref rl) (.int pn t4) (.int fn t5)) :: (d, o) :: (rl, W.listOf rvs.toArray ep) :: (rI.inf, nObj rI.dx rI.y rI.ty (.int rI.np rI.tnp) rI.sl) :: (rI.dx, dictOf [] 0) :: (rI.sl, W.listOf rI.sv.toArray rI.e) :: chunk (but1 nsI _)) :=
      news_of N7 (by
        refine fa_cons ?_ (fa_cons ?_ (fa_cons ?_ (fa_cons ?_ (fa_cons ?_ (fa_cons ?_ (fa_cons (.tail _ (.tail _ (.tail _ (.tail _ (.tail _ (.tail _ (hsub _ (.head _)))))))) (fa_cons (.tail _ (.tail _ (.tail _ (.tail _ (.tail _ (.tail _ (hsub _ (.tail _ (.head _))))))))) (fa_cons (.tail _ (.tail _ (.tail _ (.tail _ (.tail _ (.tail _ (hsub _ (.tail _ (.tail _ (.head _)))))))))) (fun q hq => .tail _ (.tail _ (.tail _ (.tail _ (.tail _ (.tail _ (hsub q (List.mem_append_right _ hq))))))))))))))))
        all_goals walk_at "m_mem")
    clear N7
    (try dsimp only)
    k_steps
    rename_i F9 N9
    obtain ⟨tq, N9⟩ : ∃ tq, News g' L' _ ((I, o2) :: (D, { cls := .type "tuple", data := .seq rvs.toArray }) :: (x, instObj 172 dx) :: (dx, sDict w t0 t1 t2 t3 d (.ref rl) (.int pn t4) (.int fn t5)) :: (d, o) :: (rl, W.listOf rvs.toArray ep) :: (rI.inf, nObj rI.dx rI.y rI.ty (.int (-1) tq) rI.sl) :: (rI.dx, dictOf [] 0) :: (rI.sl, W.listOf rI.sv.toArray rI.e) :: chunk (but1 nsI _)) := ⟨_, N9⟩
    obtain ⟨rJ, hJ1, hJ2⟩ : ∃ rJ : NR, rJ = { rI with np := -1, tnp := tq } ∧ rJ.key = rI.key := ⟨_, rfl, rfl⟩
    have hset : (nsI.set bt[i] rJ)[bt[i]]? = some rJ := List.getElem?_set_self (List.getElem?_eq_some_iff.mp hrI).1
    refine hQQ _ _ (EndN.mk' ((D, { cls := .type "tuple", data := .seq rvs.toArray }) :: (x, instObj 172 dx) :: (dx, sDict w t0 t1 t2 t3 d (.ref rl) (.int pn t4) (.int fn t5)) :: (d, o) :: (rl, W.listOf rvs.toArray ep) :: chunk (nsI.set bt[i] rJ)) F9 N9 (.head _) ?_ ?_ (hJ' _ _ _ ?_))
    · refine fa_cons ?_ (fa_cons ?_ (fa_cons ?_ (fa_cons ?_ (fa_cons ?_ ?_))))
      case refine_6 =>
        intro q hq
        rw [mem_chunk1 hset, but1_set, hJ1] at hq
        revert q
        unfold ent
        walk_at "m_sub"
      all_goals walk_at "m_mem"
    · refine fa_cons (hne _ (.head _)) (fa_cons (hne _ (.tail _ (.head _))) (fa_cons (hne _ (List.mem_of_getElem? (i := 2) rfl)) (fa_cons (hne _ (List.mem_of_getElem? (i := 3) rfl)) (fa_cons (hne _ (List.mem_of_getElem? (i := 4) rfl)) fun q hq => ?_))))
      have h3 : q.1 ∈ addrs (nsI.set bt[i] rJ) := by rw [← chunk_as]; exact List.mem_map_of_mem hq
      rw [set_as hrI (key_as hJ2), ← chunk_as] at h3
      obtain ⟨q2, hq2, e2⟩ := List.mem_map.mp h3
      rw [← e2]; exact hne _ (.tail _ (.tail _ (.tail _ (.tail _ (.tail _ hq2)))))
    · refine ⟨_, nsI.set bt[i] rJ, map1_turn, rfl, keys_set hk hrI hJ2, ?_⟩
      rw [List.map_set, hnp, List.take_add_one, List.getElem?_eq_getElem hib, Option.toList_some, List.foldl_append, hJ1]
      rfl
  case done =>
    rintro m' news' h7 tk7 ⟨un, nsI, rfl, rfl, hk, hnp⟩ F7 N7
    have ad := keys_addrs hk
    rw [List.size_toArray, hbt, List.take_length] at hnp
    have cn : ∀ {z : Addr}, z ∉ addrs ns → ∀ q ∈ chunk nsI, @Ne Nat q.1 z := fun hz q hq e => hz (by
      rw [← ad, ← chunk_as, ← e]; exact List.mem_map_of_mem hq)
    have c1 := cn nA1
    have c2 := cn nA2
    have c3 := cn nd4
    k_steps
    refine' kl_clear (its := rvs.toArray) (n := ep) ?g1 ?g2 ?g3 ?g4 ?g5 ?_
    case g1 => k_asm
    case g2 => k_asm
    case g3 => k_upd
    case g4 => show rvs.length ≠ 0; omega
    case g5 => show rvs.length ≤ sizeLine; rw [sizeLine_eq]; omega
    intro h8 F8 N8
    k_steps
    refine len_tuple (items := rvs.toArray) ⟨_, News.get N8 (.head _), rfl, 0, rfl⟩ (by rw [List.size_toArray]; omega) ?_
    k_steps
    (try dsimp only)
    rename Fr _ _ _ _ => F9
    rename News _ _ _ _ => N9
    refine h _ _ D nsI _ _ _ _ _ _ ?_ (News.get N9 (.head _)) ?_ (fun q hq => (N9 q (.tail _ hq)).1) hk hnp
    · intro b z hb e
      refine kept_many hg F9 b z ?_ e
      show b ∉ x :: dx :: d :: rl :: (chunk ns).map (·.1)
      rw [chunk_as]
      exact hb
    · refine fresh_many hg (N9 _ (.head _)).2.2 ?_
      show D ∉ x :: dx :: d :: rl :: (chunk ns).map (·.1)
      have nm : ∀ {a b : Addr} {l : List Addr}, a ≠ b → a ∉ l → a ∉ b :: l := fun h t hm => (List.mem_cons.mp hm).elim h t
      refine nm dD1 (nm dD2 (nm dD6 (nm dD4 fun hm => ?_)))
      obtain ⟨q, hq, e⟩ := List.mem_map.mp hm
      exact dD5 q hq e
end

end
section
open PySem.Calls
local macro_rules | `(tactic| walk_at "exec For") => `(tactic| ((with_reducible rename Mark => mk9); clear mk9; refine stop_it ?_))
local macro_rules | `(tactic| walk_at "pyIter ref") => `(tactic| ((with_reducible rename Mark => mk9); clear mk9; refine stop_it ?_))

section
open PySem PySem.W PyProof.Rows PySem.Calls
theorem fill_S8 (w : World) : PySem.Challenge.rw_rt0101_01 = PySem.Challenge.rw_rt0101_01 ∨ Mine.hd.heap_1 w.params = [] := by
  k_fill
  exact Or.inl rfl
theorem map5_v0 {m : Str → Option Value} {a b c d e : Str} {v3 v4 v5 w1 w2 w3 w4 w5 : Option Value} (ac : a ≠ c) (ad : a ≠ d) (ae : a ≠ e) (bc : b ≠ c) (bd : b ≠ d) (be : b ≠ e) :
    (fun w => if w = c then v3 else if w = d then v4 else if w = e then v5 else if w = a then w1 else if w = b then w2 else if w = c then w3 else if w = d then w4 else if w = e then w5 else m w) = fun w => if w = a then w1 else if w = b then w2 else if w = c then v3 else if w = d then v4 else if w = e then v5 else m w := by
  funext w
  by_cases h1 : w = a
  · subst h1; simp [ac, ad, ae]
  · by_cases h2 : w = b
    · subst h2; simp [bc, bd, be]
    · by_cases h3 : w = c
      · simp [h3, Ne.symm ac, Ne.symm bc]
      · by_cases h4 : w = d
        · subst h4; simp [h3, Ne.symm ad, Ne.symm bd]
        · by_cases h5 : w = e
          · subst h5; simp [h3, h4, Ne.symm ae, Ne.symm be]
          · simp [h1, h2, h3, h4, h5]
/-- strs that name nodes -/
def Named (ns : List NR) (vs : List Value) (bs : List Nat) : Prop := vs.length = bs.length ∧ ∀ (i b : Nat), bs[i]? = some b → ∃ (r : NR) (t : Tok), ns[b]? = some r ∧ vs[i]? = some (Value.str r.y t)
theorem off_of {a b : List (Addr × Obj)} {I : Addr} (e : a.map (·.1) = b.map (·.1)) (h : ∀ p ∈ b, @Ne Nat p.1 I) : ∀ p ∈ a, @Ne Nat p.1 I := fun p hp e2 => by
  have h1 : p.1 ∈ b.map (·.1) := by rw [← e]; exact List.mem_map_of_mem hp
  obtain ⟨q, hq, e3⟩ := List.mem_map.mp h1
  exact h q hq (e3.trans e2)
theorem Named.snoc {ns : List NR} {vs : List Value} {bs : List Nat} (h : Named ns vs bs) {b : Nat} {r : NR} (t : Tok) (hb : ns[b]? = some r) : Named ns (vs ++ [Value.str r.y t]) (bs ++ [b]) := by
  refine ⟨by rw [List.length_append, List.length_append, h.1]; rfl, fun i c hc => ?_⟩
  by_cases hi : i < bs.length
  · rw [List.getElem?_append_left hi] at hc
    obtain ⟨r2, t2, e1, e2⟩ := h.2 i c hc
    exact ⟨r2, t2, e1, by rw [List.getElem?_append_left (by rw [h.1]; exact hi)]; exact e2⟩
  · have hl := (List.getElem?_eq_some_iff.mp hc).1
    rw [List.length_append, List.length_singleton] at hl
    obtain rfl : i = bs.length := by omega
    rw [List.getElem?_append_right (Nat.le_refl _), Nat.sub_self] at hc
    obtain rfl := Option.some.inj hc
    exact ⟨r, t, hb, by rw [← h.1, List.getElem?_append_right (Nat.le_refl _), Nat.sub_self]; rfl⟩
inductive JS8 (w : World) (x dx d rl D : Addr) (t0 t1 t2 t3 t4 : Tok) (pn fn : Int) (rvs : List Value) (o : Obj) (ns : List NR) (t bt : List Nat) (m0 : Str → Option Value) (i : Nat) (m : Str → Option Value) (news : List (Addr × Obj)) : Prop
  | mk (uz uc us ui un : Option Value) (nsI : List NR) (rdy : List Value) (rn : List Nat) (er : Nat) (tf : Tok) : m = (fun y => if y = Str.ofString "successor_info" then uz else if y = Str.ofString "successor" then uc else if y = Str.ofString "stat" then us else if y = Str.ofString "nodeinfo" then ui else if y = Str.ofString "node" then un else m0 y) →
      news = (D, { cls := .type "tuple", data := .seq rvs.toArray }) :: (x, instObj 172 dx) :: (dx, sDict w t0 t1 t2 t3 d (.ref rl) (.int pn t4) (.int (fn + (i : Int)) tf)) :: (d, o) :: (rl, W.listOf rdy.toArray er) :: chunk nsI → nsI.map NR.key = ns.map NR.key → (nsI.map (·.np), rn) = (bt.take i).foldl (doneS t) (ns.map (·.np), []) → Named ns rdy rn → rdy.length ≤ i → JS8 w x dx d rl D t0 t1 t2 t3 t4 pn fn rvs o ns t bt m0 i m news
inductive JS8b (ld : Tok → List Value → Nat → List (Addr × Obj)) (np : Int) (y : Str) (inf : Addr) (tp : Tok) (rdy : List Value) (l2 : List (Addr × Obj)) (m2 : Str → Option Value) (j : Nat) (m : Str → Option Value) (news : List (Addr × Obj)) : Prop
  | a : j = 0 → m = m2 → news = l2 → JS8b ld np y inf tp rdy l2 m2 j m news
  | b (tz : Tok) (rdy' : List Value) (er' : Nat) : j = 1 → m = (fun z => if z = Str.ofString "successor_info" then some (.ref inf) else if z = Str.ofString "successor" then some (.str y tp) else m2 z) → rdy' = (if np - 1 = 0 then rdy ++ [.str y tp] else rdy) → news = ld tz rdy' er' → JS8b ld np y inf tp rdy l2 m2 j m news
set_option maxHeartbeats 4000000 in
theorem done_code {prog : Program} {w : World} {A : Around} {E : Value → Shared → Prop} {s : Shared} {p : Program} {loose : List Str} {mean : ExcName → Option Value} {mg mb : Str → Option Value} {H0 : Heap}
    (rm : Rm A 50) (G : Gnd w p loose mean mg mb H0) (k : H0.StaysIn s.heap) {x dx d rl : Addr} {o : Obj} {ns : List NR} {t0 t1 t2 t3 t4 t5 : Tok} {pn fn : Int} {rvs : List Value} {t bt : List Nat} {ep : Nat} {Q : Value → Shared → Prop}
    (S : ∀ q ∈ (x, instObj 172 dx) :: (dx, sDict w t0 t1 t2 t3 d (.ref rl) (.int pn t4) (.int fn t5)) :: (d, o) :: (rl, W.listOf #[] ep) :: chunk ns, s.heap.get? q.1 = some q.2)
    (Sn : ∀ q ∈ (x, instObj 172 dx) :: (dx, sDict w t0 t1 t2 t3 d (.ref rl) (.int pn t4) (.int fn t5)) :: (d, o) :: (rl, W.listOf #[] ep) :: chunk ns, H0.get? q.1 = none)
    (nd : (x :: dx :: d :: rl :: addrs ns).Nodup) (ho : o.IsDictOf (PySem.strKind prog w) (kvsOf ns)) (lo : (d == sysModules) = false)
    (hsz : bt.length ≤ 7) (ny : (ns.map (·.y)).Nodup) (hbt : rvs.length = bt.length) (hr : ∀ (i b : Nat), bt[i]? = some b → ∃ (r : NR) (t : Tok), ns[b]? = some r ∧ rvs[i]? = some (Value.str r.y t))
    (h0v : ∀ r, ns[0]? = some r → r.sv = []) (hpv : ∀ (u : Nat) r, ns[u + 1]? = some r → ∃ (rp : NR) (tp : Tok), ns[t.getD u 0]? = some rp ∧ r.sv = [Value.str rp.y tp] ∧ t.getD u 0 ≠ u + 1)
    (hmark : ∀ (i b : Nat), bt[i]? = some b → ((bt.take i).foldl (doneS t) (ns.map (·.np), [])).1[b]? = some (-1))
    (h : ∀ h' tk nsI rdy rn er tf, (∀ b z, b ∉ x :: dx :: d :: rl :: addrs ns → s.heap.get? b = some z → h'.get? b = some z) →
      (∀ q ∈ (x, instObj 172 dx) :: (dx, sDict w t0 t1 t2 t3 d (.ref rl) (.int pn t4) (.int (fn + (bt.length : Int)) tf)) :: (d, o) :: (rl, W.listOf rdy.toArray er) :: chunk nsI, h'.get? q.1 = some q.2) → nsI.map NR.key = ns.map NR.key → (nsI.map (·.np), rn) = bt.foldl (doneS t) (ns.map (·.np), []) → Named ns rdy rn → rdy.length ≤ bt.length → Q .none { s with heap := h', toks := tk }) :
    codeAny (model prog w) A (.call (.ref 155) ⟨.ref x :: rvs, []⟩) (fun r s' => match r with | .ok (.ret v) => Q v s' | .ok _ => False | .error e => E e s') s := by
  obtain ⟨hd', d', fr, gs, u⟩ := A
  obtain rfl : hd' = none := rm.hh
  w_on
  refine' enter_rest (M := (x, instObj 172 dx) :: (dx, sDict w t0 t1 t2 t3 d (.ref rl) (.int pn t4) (.int fn t5)) :: (d, o) :: (rl, W.listOf #[] ep) :: chunk ns) (vs := rvs) (g₁ := fun D => some [(Str.ofString "self", Value.ref x), (Str.ofString "nodes", Value.ref D)]) (binds := fun D => [(Str.ofString "self", Value.ref x), (Str.ofString "nodes", Value.ref D)]) G k ?k6 ?k7 ?k8 S Sn ?kP ?kG ?kB ?_ ?c5 ?c2 ?c3 ?c4
  case k6 => k_is
  case k7 => k_is
  case k8 => exact Rm.room (by assumption)
  case kP =>
    have hl7 : rvs.length ≤ 7 := by omega
    clear hr S Sn hbt
    match rvs, hl7 with
    | [], _ => exact rfl
    | [_], _ => exact rfl
    | [_, _], _ => exact rfl
    | [_, _, _], _ => exact rfl
    | [_, _, _, _], _ => exact rfl
    | [_, _, _, _, _], _ => exact rfl
    | [_, _, _, _, _, _], _ => exact rfl
    | [_, _, _, _, _, _, _], _ => exact rfl
    | _ :: _ :: _ :: _ :: _ :: _ :: _ :: _ :: l, h7 => simp at h7
  case kG => exact fun _ => rfl
  case kB => exact fun _ => locs rfl
  case c5 => decide
  case c2 => exact rfl
  case c3 => exact rfl
  case c4 => exact rfl
  intro D L' h' g' hD hL hg kg F' N' hMD
  obtain ⟨X', T', C1', C2'⟩ := G.keeps kg
  obtain ⟨nd1, nd'⟩ := List.nodup_cons.mp nd
  obtain ⟨nd2, nd'⟩ := List.nodup_cons.mp nd'
  obtain ⟨nd3, nd'⟩ := List.nodup_cons.mp nd'
  obtain ⟨nd4, nd5⟩ := List.nodup_cons.mp nd'
  clear nd' nd
  have e1 : @Ne Nat x dx := fun e => nd1 (e ▸ .head _)
  have e2 : @Ne Nat x d := fun e => nd1 (e ▸ .tail _ (.head _))
  have e3 : @Ne Nat x rl := fun e => nd1 (e ▸ .tail _ (.tail _ (.head _)))
  have e4 : @Ne Nat dx d := fun e => nd2 (e ▸ .head _)
  have e5 : @Ne Nat dx rl := fun e => nd2 (e ▸ .tail _ (.head _))
  have e6 : @Ne Nat d rl := fun e => nd3 (e ▸ .head _)
  have nA1 : x ∉ addrs ns := fun h => nd1 (.tail _ (.tail _ (.tail _ h)))
  have nA2 : dx ∉ addrs ns := fun h => nd2 (.tail _ (.tail _ h))
  have nA3 : d ∉ addrs ns := fun h => nd3 (.tail _ h)
  have mk1 := mark
  have mk2 := mark
  k_steps
  unfold Stop
  rename Fr _ _ _ _ => F5
  with_unfolding_all refine' For_invVF F5 ?k1 ?k2 ?_
  case k1 => exact rfl
  case k2 => exact rfl
  k_steps
  unfold Stop
  rename Fr _ _ _ _ => F6
  rename News _ _ _ _ => N6
  have e0 : fn = fn + ((0 : Nat) : Int) := by omega
  rw [e0] at N6
  have gD := News.get N6 (.head _)
  refine' tupleN (m₀ := ?m) (its := rvs.toArray) (JS8 w x dx d rl D t0 t1 t2 t3 t4 pn fn rvs o ns t bt ?m) rfl F6 N6 [(D, { cls := .type "tuple", data := .seq rvs.toArray })] ⟨_, gD, rfl, 0, rfl⟩ (.inr (.head _)) (Ne.symm (N6 _ (.head _)).2.1) ?hJc ?h0 ?turn ?done
  case hJc =>
    rintro i m news ⟨uz, uc, us, ui, un, nsI, rdy, rn, er, tf, rfl, rfl, _⟩ q hq
    rw [List.mem_singleton.mp hq]; exact .head _
  case h0 => exact ⟨_, _, _, _, _, ns, [], [], ep, t5, map5_start rfl, rfl, rfl, rfl, ⟨rfl, fun _ _ q => by simp at q⟩, Nat.le_refl _⟩
  case turn =>
    rintro J' hJ' ⟨h7, g7, dr7, tk7, os7⟩ I i v m₁ news₁ o2 hi hv ⟨uz, uc, us, ui, un, nsI, rdy, rn, er, tf, rfl, rfl, hk, hnp, hrd, hrl⟩ hne F7 N7
    change Fr g' L' h7 _ at F7
    change News g' L' h7 _ at N7
    refine opq fun QQ hQQ => ?_
    have hib : i < bt.length := by rw [← hbt]; exact hi
    obtain ⟨r, tv, hr1, hr2⟩ := hr i _ (List.getElem?_eq_getElem hib)
    have hm1 := hmark i _ (List.getElem?_eq_getElem hib)
    rw [← hnp] at hm1
    rw [List.getElem?_toArray, hr2] at hv
    obtain rfl := (Option.some.inj hv).symm
    obtain ⟨rI, hrI, hkI⟩ := keys_get hk hr1
    have hnpI : rI.np = -1 := by
      have h2 : (nsI.map (·.np))[bt[i]]? = some (-1) := hm1
      rw [List.getElem?_map, hrI] at h2
      exact Option.some.inj h2
    have hval := valueAt_kvs ny hr1
    simp only [NR.key, Prod.mk.injEq] at hkI
    obtain ⟨j1, j2, j3, j4, j5, j6, j7⟩ := hkI
    rw [← j1] at hval
    have ad := keys_addrs hk
    have am := as_mem hrI
    rw [ad] at am
    have ndI : (addrs nsI).Nodup := by rw [ad]; exact nd5
    obtain ⟨s1, s2, s3, _⟩ := nodup_split ndI hrI
    have hsub := ent_sub hrI
    have b1 : @Ne Nat x rI.inf := fun e => nA1 (e ▸ am.1)
    have b2 : @Ne Nat dx rI.inf := fun e => nA2 (e ▸ am.1)
    have b3 : @Ne Nat d rI.inf := fun e => nA3 (e ▸ am.1)
    have b4 : @Ne Nat rl rI.inf := fun e => nd4 (e ▸ am.1)
    have b5 : @Ne Nat D rI.inf := Ne.symm (chunk_ne_tuple (fun q hq => (N7 q (.tail _ (.tail _ (.tail _ (.tail _ (.tail _ (.tail _ hq))))))).1) (News.get N7 (.tail _ (.head _))) _ (hsub _ (.head _)))
    have b7 : @Ne Nat dx rI.dx := fun e => nA2 (e ▸ am.2.1)
    have b8 : @Ne Nat dx rI.sl := fun e => nA2 (e ▸ am.2.2)
    have b6 : @Ne Nat rI.inf I := hne _ (.tail _ (.tail _ (.tail _ (.tail _ (.tail _ (hsub _ (.head _)))))))
    have a1 : @Ne Nat D I := hne _ (.head _)
    have a2 : @Ne Nat x I := hne _ (.tail _ (.head _))
    have a3 : @Ne Nat dx I := hne _ (List.mem_of_getElem? (i := 2) rfl)
    have a4 : @Ne Nat d I := hne _ (List.mem_of_getElem? (i := 3) rfl)
    have a5 : @Ne Nat rl I := hne _ (List.mem_of_getElem? (i := 4) rfl)
    have a6 : ∀ q ∈ chunk nsI, @Ne Nat q.1 I := fun q hq => hne q (.tail _ (.tail _ (.tail _ (.tail _ (.tail _ hq)))))
    have a7 : ∀ q ∈ chunk nsI, @Ne Nat q.1 dx := fun q hq e => nA2 (by rw [← ad, ← chunk_as, ← e]; exact List.mem_map_of_mem hq)
    have a8 : ∀ q ∈ chunk nsI, @Ne Nat q.1 rl := fun q hq e => nd4 (by rw [← ad, ← chunk_as, ← e]; exact List.mem_map_of_mem hq)
    have gD7 := News.get N7 (.tail _ (.head _))
    have dD2 : @Ne Nat D dx := ne_of_data gD7 (News.get N7 (List.mem_of_getElem? (i := 3) rfl)) (by intro q; cases q)
    have dD4 : @Ne Nat D rl := fun e => by
      have h1 := News.get N7 (List.mem_of_getElem? (i := 5) rfl)
      rw [← e, gD7] at h1
      have h2 := congrArg Obj.cls (Option.some.inj h1)
      exact absurd h2 (show Value.type "tuple" ≠ Value.type "list" by decide)
    generalize hb : bt[i] = v at hr1 hrI
    rcases v with _ | u
    · have hsv : rI.sv = [] := by rw [j6]; exact h0v r hr1
      have rn1 := rest_ne ndI hrI (S := [0]) (by simp) rI.inf (.head _)
      have r2 : ∀ q ∈ restS nsI [0], @Ne Nat q.1 dx := fun q hq => a7 q (rest_sub q hq)
      have N8 : News g' L' h7 ((I, o2) :: (D, { cls := .type "tuple", data := .seq rvs.toArray }) :: (x, instObj 172 dx) :: (dx, sDict w t0 t1 t2 t3 d (.ref rl) (.int pn t4) (.int (fn + (i : Int)) tf)) :: (d, o) :: (rl, W.listOf rdy.toArray er) :: (rI.inf, nObj rI.dx rI.y rI.ty (.int (-1) rI.tnp) rI.sl) :: (rI.dx, dictOf [] 0) :: (rI.sl, W.listOf #[] rI.e) :: restS nsI [0]) := news_of N7 (by
        refine fa_cons ?_ (fa_cons ?_ (fa_cons ?_ (fa_cons ?_ (fa_cons ?_ (fa_cons ?_ (fa_cons (.tail _ (.tail _ (.tail _ (.tail _ (.tail _ (.tail _ (hsub _ (hnpI ▸ .head _)))))))) (fa_cons (.tail _ (.tail _ (.tail _ (.tail _ (.tail _ (.tail _ (hsub _ (.tail _ (.head _))))))))) (fa_cons (.tail _ (.tail _ (.tail _ (.tail _ (.tail _ (.tail _ (hsub _ (by rw [← show rI.sv.toArray = #[] by rw [hsv]]; exact .tail _ (.tail _ (.head _)))))))))) (fun q hq => .tail _ (.tail _ (.tail _ (.tail _ (.tail _ (.tail _ (rest_sub q hq)))))))))))))))
        all_goals walk_at "m_mem")
      (try dsimp only)
      k_steps
      rename Fr _ _ _ _ => F9
      rename News _ _ _ _ => N9
      obtain ⟨tq, N9⟩ : ∃ tq, News g' L' _ ((I, o2) :: (D, { cls := .type "tuple", data := .seq rvs.toArray }) :: (x, instObj 172 dx) :: (dx, sDict w t0 t1 t2 t3 d (.ref rl) (.int pn t4) (.int (fn + (i : Int)) tf)) :: (d, o) :: (rl, W.listOf rdy.toArray er) :: (rI.inf, nObj rI.dx rI.y rI.ty (.int (-2) tq) rI.sl) :: (rI.dx, dictOf [] 0) :: (rI.sl, W.listOf #[] rI.e) :: restS nsI [0]) := ⟨_, N9⟩
      obtain ⟨l2, el2⟩ : ∃ l2, l2 = (I, o2) :: (D, { cls := .type "tuple", data := .seq rvs.toArray }) :: (x, instObj 172 dx) :: (dx, sDict w t0 t1 t2 t3 d (.ref rl) (.int pn t4) (.int (fn + (i : Int)) tf)) :: (d, o) :: (rl, W.listOf rdy.toArray er) :: (rI.inf, nObj rI.dx rI.y rI.ty (.int (-2) tq) rI.sl) :: (rI.dx, dictOf [] 0) :: (rI.sl, W.listOf #[] rI.e) :: restS nsI [0] := ⟨_, rfl⟩
      rw [← el2] at N9
      have h9 : (rI.sl, W.listOf #[] rI.e) ∈ l2 := by rw [el2]; exact List.mem_of_getElem? (i := 8) rfl
      refine' listN (m₀ := ?m2) (its := #[]) (news := l2) (fun j m news => m = ?m2 ∧ news = l2) rfl F9 N9 [(rI.sl, W.listOf #[] rI.e)] ⟨_, News.get N9 h9, rfl, rI.e, rfl⟩ (.inr (.head _)) (Ne.symm (N9 _ h9).2.1) ?hJc2 ⟨rfl, rfl⟩ ?turn2 ?done2
      case hJc2 =>
        rintro j m news ⟨rfl, rfl⟩ q hq
        rw [List.mem_singleton.mp hq]; exact h9
      case turn2 =>
        intro _ _ s0 I2 j v m1 news1 o3 hj
        exact absurd hj (Nat.not_lt_zero _)
      case done2 =>
        intro m3 news3 h10 tk10 hJ F10 N10
        obtain ⟨rfl, rfl⟩ := hJ
        subst el2
        change Fr g' L' h10 _ at F10
        change News g' L' h10 _ at N10
        clear h9 N9 F9 hv hm1
        dsimp only
        k_steps
        rename Fr _ _ _ _ => F11
        rename News _ _ _ _ => N11
        obtain ⟨tf2, N11⟩ : ∃ tf2, News g' L' _ ((I, o2) :: (D, { cls := .type "tuple", data := .seq rvs.toArray }) :: (x, instObj 172 dx) :: (dx, sDict w t0 t1 t2 t3 d (.ref rl) (.int pn t4) (.int (fn + (i : Int) + 1) tf2)) :: (d, o) :: (rl, W.listOf rdy.toArray er) :: (rI.inf, nObj rI.dx rI.y rI.ty (.int (-2) tq) rI.sl) :: (rI.dx, dictOf [] 0) :: (rI.sl, W.listOf #[] rI.e) :: restS nsI [0]) := ⟨_, N11⟩
        obtain ⟨rJ, hJ1, hJ2⟩ : ∃ rJ : NR, rJ = { rI with np := -2, tnp := tq } ∧ rJ.key = rI.key := ⟨_, rfl, rfl⟩
        refine hQQ _ _ (EndN.mk' ((D, { cls := .type "tuple", data := .seq rvs.toArray }) :: (x, instObj 172 dx) :: (dx, sDict w t0 t1 t2 t3 d (.ref rl) (.int pn t4) (.int (fn + ((i + 1 : Nat) : Int)) tf2)) :: (d, o) :: (rl, W.listOf rdy.toArray er) :: chunk (nsI.set 0 rJ)) F11 N11 (.head _) ?_ ?_ (hJ' _ _ _ ?_))
        · refine fa_cons ?_ (fa_cons ?_ (fa_cons ?_ (fa_cons ?_ (fa_cons ?_ ?_))))
          · walk_at "m_mem"
          · walk_at "m_mem"
          · rw [show fn + ((i + 1 : Nat) : Int) = fn + (i : Int) + 1 by rw [Int.natCast_add, ← Int.add_assoc]; rfl]; walk_at "m_mem"
          · walk_at "m_mem"
          · walk_at "m_mem"
          · intro q hq0
            rcases back1 q hq0 with hq | hq
            · clear hq0
              revert q
              rw [hJ1]
              unfold ent
              refine fa_cons ?_ (fa_cons ?_ (fa_cons ?_ fa_nil))
              · exact List.mem_of_getElem? (i := 6) rfl
              · exact List.mem_of_getElem? (i := 7) rfl
              · show (rI.sl, W.listOf rI.sv.toArray rI.e) ∈ _
                rw [hsv]
                exact List.mem_of_getElem? (i := 8) rfl
            · walk_at "m_mem"
        · refine fa_cons a1 (fa_cons a2 (fa_cons a3 (fa_cons a4 (fa_cons a5 fun q hq => ?_))))
          have h3 : q.1 ∈ addrs (nsI.set 0 rJ) := by rw [← chunk_as]; exact List.mem_map_of_mem hq
          rw [set_as hrI (key_as hJ2), ← chunk_as] at h3
          obtain ⟨q2, hq2, e2⟩ := List.mem_map.mp h3
          rw [← e2]; exact a6 _ hq2
        · refine ⟨_, _, _, _, _, nsI.set 0 rJ, rdy, rn, er, tf2, map5_v0 (by decide) (by decide) (by decide) (by decide) (by decide) (by decide), rfl, keys_set hk hrI hJ2, ?_, hrd, Nat.le_succ_of_le hrl⟩
          rw [List.take_add_one, List.getElem?_eq_getElem hib, Option.toList_some, List.foldl_append, ← hnp, hb, List.map_set, hJ1]
          rfl
    · obtain ⟨rp, tp, hp1, hp2, hp3⟩ := hpv u r hr1
      obtain ⟨rP, hrP, hkP⟩ := keys_get hk hp1
      have hvalP := valueAt_kvs ny hp1
      simp only [NR.key, Prod.mk.injEq] at hkP
      obtain ⟨i1, i2, i3, i4, i5, i6, i7⟩ := hkP
      rw [← i1] at hvalP
      have hsv : rI.sv = [Value.str rp.y tp] := by rw [j6]; exact hp2
      have aP := as_mem hrP
      rw [ad] at aP
      have nz : ∀ {z a : Addr}, z ∉ addrs ns → a ∈ addrs ns → @Ne Nat z a := fun hz ha e => hz (e ▸ ha)
      have ap : ∀ z ∈ rI.as, ∀ y ∈ rP.as, @Ne Nat z y := fun z hz y hy e => apart ndI hrI hrP hp3 z hz (e ▸ hy)
      obtain ⟨p1, p2, p3, _⟩ := nodup_split ndI hrP
      have hsubP := ent_sub hrP
      generalize hpe : t.getD u 0 = pa at hp1 hp3 hrP
      have c1 : @Ne Nat rP.inf rI.inf := Ne.symm (ap rI.inf (.head _) rP.inf (.head _))
      have c2 : @Ne Nat rP.dx rI.inf := Ne.symm (ap rI.inf (.head _) rP.dx (.tail _ (.head _)))
      have c3 : @Ne Nat rP.sl rI.inf := Ne.symm (ap rI.inf (.head _) rP.sl (.tail _ (.tail _ (.head _))))
      have c4 : @Ne Nat rI.dx rP.inf := ap rI.dx (.tail _ (.head _)) rP.inf (.head _)
      have c5 : @Ne Nat rI.sl rP.inf := ap rI.sl (.tail _ (.tail _ (.head _))) rP.inf (.head _)
      have d1 : @Ne Nat x rP.inf := nz nA1 aP.1
      have d2 : @Ne Nat dx rP.inf := nz nA2 aP.1
      have d3 : @Ne Nat d rP.inf := nz nA3 aP.1
      have d4 : @Ne Nat rl rP.inf := nz nd4 aP.1
      have d5 : @Ne Nat D rP.inf := Ne.symm (chunk_ne_tuple (fun q hq => (N7 q (.tail _ (.tail _ (.tail _ (.tail _ (.tail _ (.tail _ hq))))))).1) gD7 _ (hsubP _ (.head _)))
      have d6 : @Ne Nat rP.inf I := a6 _ (hsubP _ (.head _))
      have f1 : @Ne Nat rl rI.dx := nz nd4 am.2.1
      have f2 : @Ne Nat rl rI.sl := nz nd4 am.2.2
      have f3 : @Ne Nat rl rP.dx := nz nd4 aP.2.1
      have f4 : @Ne Nat rl rP.sl := nz nd4 aP.2.2
      have f5 : @Ne Nat dx rP.dx := nz nA2 aP.2.1
      have f6 : @Ne Nat dx rP.sl := nz nA2 aP.2.2
      have rn1 := rest_ne ndI hrI (S := [u + 1, pa]) (by simp) rI.inf (.head _)
      have rn2 := rest_ne ndI hrP (S := [u + 1, pa]) (by simp) rP.inf (.head _)
      have r2 : ∀ q ∈ restS nsI [u + 1, pa], @Ne Nat q.1 dx := fun q hq => a7 q (rest_sub q hq)
      have r3 : ∀ q ∈ restS nsI [u + 1, pa], @Ne Nat q.1 rl := fun q hq => a8 q (rest_sub q hq)
      have N8 : News g' L' h7 ((I, o2) :: (D, { cls := .type "tuple", data := .seq rvs.toArray }) :: (x, instObj 172 dx) :: (dx, sDict w t0 t1 t2 t3 d (.ref rl) (.int pn t4) (.int (fn + (i : Int)) tf)) :: (d, o) :: (rl, W.listOf rdy.toArray er) :: (rI.inf, nObj rI.dx rI.y rI.ty (.int (-1) rI.tnp) rI.sl) :: (rI.dx, dictOf [] 0) :: (rI.sl, W.listOf #[.str rp.y tp] rI.e) :: (rP.inf, nObj rP.dx rP.y rP.ty (.int rP.np rP.tnp) rP.sl) :: (rP.dx, dictOf [] 0) :: (rP.sl, W.listOf rP.sv.toArray rP.e) :: restS nsI [u + 1, pa]) := news_of N7 (by
        refine fa_cons ?_ (fa_cons ?_ (fa_cons ?_ (fa_cons ?_ (fa_cons ?_ (fa_cons ?_ (fa_cons (.tail _ (.tail _ (.tail _ (.tail _ (.tail _ (.tail _ (hsub _ (hnpI ▸ .head _)))))))) (fa_cons (.tail _ (.tail _ (.tail _ (.tail _ (.tail _ (.tail _ (hsub _ (.tail _ (.head _))))))))) (fa_cons (.tail _ (.tail _ (.tail _ (.tail _ (.tail _ (.tail _ (hsub _ (by rw [← show rI.sv.toArray = #[.str rp.y tp] by rw [hsv]]; exact .tail _ (.tail _ (.head _)))))))))) (fa_cons (.tail _ (.tail _ (.tail _ (.tail _ (.tail _ (.tail _ (hsubP _ (.head _)))))))) (fa_cons (.tail _ (.tail _ (.tail _ (.tail _ (.tail _ (.tail _ (hsubP _ (.tail _ (.head _))))))))) (fa_cons (.tail _ (.tail _ (.tail _ (.tail _ (.tail _ (.tail _ (hsubP _ (.tail _ (.tail _ (.head _)))))))))) (fun q hq => .tail _ (.tail _ (.tail _ (.tail _ (.tail _ (.tail _ (rest_sub q hq))))))))))))))))))
        all_goals walk_at "m_mem")
      clear N7 hv hm1
      (try dsimp only)
      k_steps
      rename Fr _ _ _ _ => F9
      rename News _ _ _ _ => N9
      obtain ⟨tq, N9⟩ : ∃ tq, News g' L' _ ((I, o2) :: (D, { cls := .type "tuple", data := .seq rvs.toArray }) :: (x, instObj 172 dx) :: (dx, sDict w t0 t1 t2 t3 d (.ref rl) (.int pn t4) (.int (fn + (i : Int)) tf)) :: (d, o) :: (rl, W.listOf rdy.toArray er) :: (rI.inf, nObj rI.dx rI.y rI.ty (.int (-2) tq) rI.sl) :: (rI.dx, dictOf [] 0) :: (rI.sl, W.listOf #[.str rp.y tp] rI.e) :: (rP.inf, nObj rP.dx rP.y rP.ty (.int rP.np rP.tnp) rP.sl) :: (rP.dx, dictOf [] 0) :: (rP.sl, W.listOf rP.sv.toArray rP.e) :: restS nsI [u + 1, pa]) := ⟨_, N9⟩
      obtain ⟨l2, el2⟩ : ∃ l2, l2 = (I, o2) :: (D, { cls := .type "tuple", data := .seq rvs.toArray }) :: (x, instObj 172 dx) :: (dx, sDict w t0 t1 t2 t3 d (.ref rl) (.int pn t4) (.int (fn + (i : Int)) tf)) :: (d, o) :: (rl, W.listOf rdy.toArray er) :: (rI.inf, nObj rI.dx rI.y rI.ty (.int (-2) tq) rI.sl) :: (rI.dx, dictOf [] 0) :: (rI.sl, W.listOf #[.str rp.y tp] rI.e) :: (rP.inf, nObj rP.dx rP.y rP.ty (.int rP.np rP.tnp) rP.sl) :: (rP.dx, dictOf [] 0) :: (rP.sl, W.listOf rP.sv.toArray rP.e) :: restS nsI [u + 1, pa] := ⟨_, rfl⟩
      rw [← el2] at N9
      have h9 : (rI.sl, W.listOf #[.str rp.y tp] rI.e) ∈ l2 := by rw [el2]; exact List.mem_of_getElem? (i := 8) rfl
      refine' listN (m₀ := ?m2) (its := #[.str rp.y tp]) (news := l2) (JS8b (fun tz rdy' er' => (I, o2) :: (D, { cls := .type "tuple", data := .seq rvs.toArray }) :: (x, instObj 172 dx) :: (dx, sDict w t0 t1 t2 t3 d (.ref rl) (.int pn t4) (.int (fn + (i : Int)) tf)) :: (d, o) :: (rl, W.listOf rdy'.toArray er') :: (rI.inf, nObj rI.dx rI.y rI.ty (.int (-2) tq) rI.sl) :: (rI.dx, dictOf [] 0) :: (rI.sl, W.listOf #[.str rp.y tp] rI.e) :: (rP.inf, nObj rP.dx rP.y rP.ty (.int (rP.np - 1) tz) rP.sl) :: (rP.dx, dictOf [] 0) :: (rP.sl, W.listOf rP.sv.toArray rP.e) :: restS nsI [u + 1, pa]) rP.np rp.y rP.inf tp rdy l2 ?m2) rfl F9 N9 [(rI.sl, W.listOf #[.str rp.y tp] rI.e)] ⟨_, News.get N9 h9, rfl, rI.e, rfl⟩ (.inr (.head _)) (Ne.symm (N9 _ h9).2.1) ?hJc2 (.a rfl rfl rfl) ?turn2 ?done2
      case hJc2 =>
        rintro j m news (⟨rfl, rfl, rfl⟩ | ⟨tz, rdy', er', rfl, rfl, _, rfl⟩) q hq
        · rw [List.mem_singleton.mp hq]; exact h9
        · rw [List.mem_singleton.mp hq]; exact List.mem_of_getElem? (i := 8) rfl
      case turn2 =>
        rintro J2' hJ2' ⟨h8, g8, dr8, tk8, os8⟩ I2 j v m1 news1 o3 hj hv2 hJ2 hne2 F10 N10
        obtain rfl : j = 0 := by have : (#[Value.str rp.y tp] : Array Value).size = 1 := rfl; omega
        obtain ⟨_, rfl, rfl⟩ : (0 : Nat) = 0 ∧ m1 = _ ∧ news1 = l2 := by
          rcases hJ2 with ⟨h1, h2, h3⟩ | ⟨_, _, _, h⟩
          · exact ⟨h1, h2, h3⟩
          · cases h
        obtain rfl : Value.str rp.y tp = v := Option.some.inj hv2
        subst el2
        change Fr g' L' h8 _ at F10
        change News g' L' h8 _ at N10
        have k1 : @Ne Nat D I2 := hne2 _ (List.mem_of_getElem? (i := 1) rfl)
        have k2 : @Ne Nat x I2 := hne2 _ (List.mem_of_getElem? (i := 2) rfl)
        have k3 : @Ne Nat dx I2 := hne2 _ (List.mem_of_getElem? (i := 3) rfl)
        have k4 : @Ne Nat d I2 := hne2 _ (List.mem_of_getElem? (i := 4) rfl)
        have k5 : @Ne Nat rl I2 := hne2 _ (List.mem_of_getElem? (i := 5) rfl)
        have k6 : @Ne Nat rP.inf I2 := hne2 _ (List.mem_of_getElem? (i := 9) rfl)
        have k7 : @Ne Nat I I2 := hne2 _ (List.mem_of_getElem? (i := 0) rfl)
        clear N9 F9 h9 hv2 hJ2
        dsimp only
        k_steps
        · have szr : rdy.toArray.size ≤ sizeLine := by rw [sizeLine_eq, List.size_toArray]; omega
          refine' append_K (its := rdy.toArray) (n := er) ?g1 ?g2 ?g3 ?_ szr
          case g1 => k_asm
          case g2 => k_asm
          case g3 => k_upd
          intro h9 F11 N11
          k_steps
          rename Fr _ _ _ _ => F12
          rename News _ _ _ _ => N12
          obtain ⟨tz, N12⟩ : ∃ tz, News g' L' _ ((I2, o3) :: (I, o2) :: (D, { cls := .type "tuple", data := .seq rvs.toArray }) :: (x, instObj 172 dx) :: (dx, sDict w t0 t1 t2 t3 d (.ref rl) (.int pn t4) (.int (fn + (i : Int)) tf)) :: (d, o) :: (rl, W.listOf (rdy.toArray.push (.str rp.y tp)) (er + 1)) :: (rI.inf, nObj rI.dx rI.y rI.ty (.int (-2) tq) rI.sl) :: (rI.dx, dictOf [] 0) :: (rI.sl, W.listOf #[.str rp.y tp] rI.e) :: (rP.inf, nObj rP.dx rP.y rP.ty (.int (rP.np - 1) tz) rP.sl) :: (rP.dx, dictOf [] 0) :: (rP.sl, W.listOf rP.sv.toArray rP.e) :: restS nsI [u + 1, pa]) := ⟨_, N12⟩
          have ep : (rdy ++ [Value.str rp.y tp]).toArray = rdy.toArray.push (Value.str rp.y tp) := by simp
          rw [← ep] at N12
          refine EndN.mk' ((I, o2) :: (D, { cls := .type "tuple", data := .seq rvs.toArray }) :: (x, instObj 172 dx) :: (dx, sDict w t0 t1 t2 t3 d (.ref rl) (.int pn t4) (.int (fn + (i : Int)) tf)) :: (d, o) :: (rl, W.listOf (rdy ++ [Value.str rp.y tp]).toArray (er + 1)) :: (rI.inf, nObj rI.dx rI.y rI.ty (.int (-2) tq) rI.sl) :: (rI.dx, dictOf [] 0) :: (rI.sl, W.listOf #[.str rp.y tp] rI.e) :: (rP.inf, nObj rP.dx rP.y rP.ty (.int (rP.np - 1) tz) rP.sl) :: (rP.dx, dictOf [] 0) :: (rP.sl, W.listOf rP.sv.toArray rP.e) :: restS nsI [u + 1, pa]) F12 N12 (.head _) (fun q hq => .tail _ hq) (by refine off_of ?_ hne2; rfl) (hJ2' _ _ _ (.b tz _ _ rfl rfl (if_pos (by assumption)).symm rfl))
        · rename Fr _ _ _ _ => F12
          rename News _ _ _ _ => N12
          obtain ⟨tz, N12⟩ : ∃ tz, News g' L' _ ((I2, o3) :: (I, o2) :: (D, { cls := .type "tuple", data := .seq rvs.toArray }) :: (x, instObj 172 dx) :: (dx, sDict w t0 t1 t2 t3 d (.ref rl) (.int pn t4) (.int (fn + (i : Int)) tf)) :: (d, o) :: (rl, W.listOf rdy.toArray er) :: (rI.inf, nObj rI.dx rI.y rI.ty (.int (-2) tq) rI.sl) :: (rI.dx, dictOf [] 0) :: (rI.sl, W.listOf #[.str rp.y tp] rI.e) :: (rP.inf, nObj rP.dx rP.y rP.ty (.int (rP.np - 1) tz) rP.sl) :: (rP.dx, dictOf [] 0) :: (rP.sl, W.listOf rP.sv.toArray rP.e) :: restS nsI [u + 1, pa]) := ⟨_, N12⟩
          refine EndN.mk' ((I, o2) :: (D, { cls := .type "tuple", data := .seq rvs.toArray }) :: (x, instObj 172 dx) :: (dx, sDict w t0 t1 t2 t3 d (.ref rl) (.int pn t4) (.int (fn + (i : Int)) tf)) :: (d, o) :: (rl, W.listOf rdy.toArray er) :: (rI.inf, nObj rI.dx rI.y rI.ty (.int (-2) tq) rI.sl) :: (rI.dx, dictOf [] 0) :: (rI.sl, W.listOf #[.str rp.y tp] rI.e) :: (rP.inf, nObj rP.dx rP.y rP.ty (.int (rP.np - 1) tz) rP.sl) :: (rP.dx, dictOf [] 0) :: (rP.sl, W.listOf rP.sv.toArray rP.e) :: restS nsI [u + 1, pa]) F12 N12 (.head _) (fun q hq => .tail _ hq) (by refine off_of ?_ hne2; rfl) (hJ2' _ _ _ (.b tz _ _ rfl rfl (if_neg (by assumption)).symm rfl))
      case done2 =>
        intro m3 news3 h10 tk10 hJ2 F10 N10
        rcases hJ2 with ⟨h9z, _⟩ | ⟨tz, rdy', er', _, e1, hrd', e2⟩
        · cases h9z
        subst e1 e2
        subst el2
        change Fr g' L' h10 _ at F10
        change News g' L' h10 _ at N10
        clear h9 N9 F9
        dsimp only
        k_steps
        rename Fr _ _ _ _ => F11
        rename News _ _ _ _ => N11
        obtain ⟨tf2, N11⟩ : ∃ tf2, News g' L' _ ((I, o2) :: (D, { cls := .type "tuple", data := .seq rvs.toArray }) :: (x, instObj 172 dx) :: (dx, sDict w t0 t1 t2 t3 d (.ref rl) (.int pn t4) (.int (fn + (i : Int) + 1) tf2)) :: (d, o) :: (rl, W.listOf rdy'.toArray er') :: (rI.inf, nObj rI.dx rI.y rI.ty (.int (-2) tq) rI.sl) :: (rI.dx, dictOf [] 0) :: (rI.sl, W.listOf #[.str rp.y tp] rI.e) :: (rP.inf, nObj rP.dx rP.y rP.ty (.int (rP.np - 1) tz) rP.sl) :: (rP.dx, dictOf [] 0) :: (rP.sl, W.listOf rP.sv.toArray rP.e) :: restS nsI [u + 1, pa]) := ⟨_, N11⟩
        obtain ⟨rJ, hJ1, hJ2⟩ : ∃ rJ : NR, rJ = { rI with np := -2, tnp := tq } ∧ rJ.key = rI.key := ⟨_, rfl, rfl⟩
        obtain ⟨rQ, hQ1, hQ2⟩ : ∃ rQ : NR, rQ = { rP with np := rP.np - 1, tnp := tz } ∧ rQ.key = rP.key := ⟨_, rfl, rfl⟩
        have hrP2 : (nsI.set (u + 1) rJ)[pa]? = some rP := by rw [List.getElem?_set_ne (Ne.symm hp3)]; exact hrP
        have hnpP : (nsI.map (·.np))[pa]? = some rP.np := by rw [List.getElem?_map, hrP]; rfl
        have hget : ((nsI.map (·.np)).set (u + 1) (-2)).getD pa 0 = rP.np := by
          rw [List.getD_eq_getElem?_getD, List.getElem?_set_ne (Ne.symm hp3), hnpP]; rfl
        have had : addrs ((nsI.set (u + 1) rJ).set pa rQ) = addrs nsI := by rw [set_as hrP2 (key_as hQ2), set_as hrI (key_as hJ2)]
        refine hQQ _ _ (EndN.mk' ((D, { cls := .type "tuple", data := .seq rvs.toArray }) :: (x, instObj 172 dx) :: (dx, sDict w t0 t1 t2 t3 d (.ref rl) (.int pn t4) (.int (fn + ((i + 1 : Nat) : Int)) tf2)) :: (d, o) :: (rl, W.listOf rdy'.toArray er') :: chunk ((nsI.set (u + 1) rJ).set pa rQ)) F11 N11 (.head _) ?_ ?_ (hJ' _ _ _ ?_))
        · refine fa_cons ?_ (fa_cons ?_ (fa_cons ?_ (fa_cons ?_ (fa_cons ?_ ?_))))
          · walk_at "m_mem"
          · walk_at "m_mem"
          · rw [show fn + ((i + 1 : Nat) : Int) = fn + (i : Int) + 1 by rw [Int.natCast_add, ← Int.add_assoc]; rfl]; walk_at "m_mem"
          · walk_at "m_mem"
          · walk_at "m_mem"
          · intro q hq0
            rcases back2 q hq0 with hq | hq | hq
            · clear hq0
              revert q
              rw [hJ1]
              unfold ent
              refine fa_cons ?_ (fa_cons ?_ (fa_cons ?_ fa_nil))
              · exact List.mem_of_getElem? (i := 6) rfl
              · exact List.mem_of_getElem? (i := 7) rfl
              · show (rI.sl, W.listOf rI.sv.toArray rI.e) ∈ _
                rw [hsv]
                exact List.mem_of_getElem? (i := 8) rfl
            · clear hq0
              revert q
              rw [hQ1]
              unfold ent
              refine fa_cons ?_ (fa_cons ?_ (fa_cons ?_ fa_nil))
              · exact List.mem_of_getElem? (i := 9) rfl
              · exact List.mem_of_getElem? (i := 10) rfl
              · exact List.mem_of_getElem? (i := 11) rfl
            · walk_at "m_mem"
        · refine fa_cons a1 (fa_cons a2 (fa_cons a3 (fa_cons a4 (fa_cons a5 fun q hq => ?_))))
          have h3 : q.1 ∈ addrs ((nsI.set (u + 1) rJ).set pa rQ) := by rw [← chunk_as]; exact List.mem_map_of_mem hq
          rw [had, ← chunk_as] at h3
          obtain ⟨q2, hq2, e2⟩ := List.mem_map.mp h3
          rw [← e2]; exact a6 _ hq2
        · refine ⟨_, _, _, _, _, (nsI.set (u + 1) rJ).set pa rQ, rdy', (if rP.np - 1 = 0 then rn ++ [pa] else rn), er', tf2, map5_turn, rfl, keys_set (keys_set hk hrI hJ2) hrP2 hQ2, ?_, ?_, ?_⟩
          · rw [List.take_add_one, List.getElem?_eq_getElem hib, Option.toList_some, List.foldl_append, ← hnp, hb, List.map_set, List.map_set, hJ1, hQ1]
            show _ = doneS t _ (u + 1)
            unfold doneS
            dsimp only
            rw [hpe, hget]
          · rw [hrd']
            split
            · exact hrd.snoc tp hp1
            · exact hrd
          · rw [hrd']
            split
            · rw [List.length_append, List.length_singleton]; omega
            · omega
  case done =>
    rintro m' news' h7 tk7 ⟨uz, uc, us, ui, un, nsI, rdy, rn, er, tf, rfl, rfl, hk, hnp, hrd, hrl⟩ F7 N7
    rw [List.size_toArray, hbt] at N7 hrl hnp
    rw [List.take_length] at hnp
    change Fr g' L' h7 _ at F7
    change News g' L' h7 _ at N7
    k_steps
    dsimp only
    rename Fr _ _ _ _ => F9
    rename News _ _ _ _ => N9
    refine h _ _ nsI rdy rn er tf ?_ (fun q hq => (N9 q (.tail _ hq)).1) hk hnp hrd hrl
    intro b z hb e
    refine kept_many hg F9 b z ?_ e
    simp only [List.map_cons, chunk_as]
    exact hb
end

section
open PySem PySem.W PyProof.Rows PySem.Calls
section
variable {prog : Program} {w : World} {A : Around} {E : Value → Shared → Prop} {s : Shared} {h₀ : Heap} {L : Addr} {m : Str → Option Value} {news : List (Addr × Obj)}
theorem iter_list {l : Addr} {its : Array Value} {n : Nat} {Q : Value → Shared → Prop} (F : Fr h₀ L s.heap m) (N : News h₀ L s.heap news) (hm : (l, W.listOf its n) ∈ news)
    (h : ∀ (I : Addr) h', Fr h₀ L h' m → News h₀ L h' ((I, { cls := .type "list_iterator", data := .fields #[.ref l, .int 0 0] }) :: news) → (∀ q ∈ news, @LT.lt Nat _ q.1 I) → Q (.ref I) { s with heap := h' }) :
    wpAny (model prog w) A (call (.builtin "iter") [.ref l]) Q E s := by
  refine call_function_entry (by decide +kernel) (by decide +kernel) kdk_entry_iter (kdk_args_iter _) ?_
  unfold Builtin.«iter»
  refine wpAny_bind (m := someArgs "iter" 1 2 _) (wpAny_of_eq (a := [Value.ref l]) (by first | rfl | kernel_rfl!) ?_)
  show wpAny _ _ (pyIter (.ref l) >>= _) _ _ _
  refine wpAny_bind (wpAny_pyIter_list ⟨_, (N _ hm).1, rfl, _, rfl⟩ ?_)
  exact wpAny_pure ⟨_, rfl, h _ _ (F.push _) (News.push F N _ rfl) (fun q hq => Heap.lt_size (N q hq).1)⟩

/-- the bound __next__ of a list's iterator -/
@[reducible] def mwObj (I : Addr) : Obj := { cls := .type "method-wrapper", data := .fields #[.builtin "list_iterator.__next__", .ref I] }
theorem li_slot_ga : Slot "list_iterator" "__getattribute__" "object.__getattribute__" :=
  .of (owner := "object") (n := "__getattribute__") (by rw [typeLookup_type, builtinLookup_eq_fast]; kernel_rfl) (by decide +kernel) (by decide +kernel) (by decide +kernel)
    (by first | exact .inl (by decide +kernel) | exact .inr (by decide +kernel)) (by rw [isSubtype_type]; kernel_rfl)
theorem wd_slot_get : Slot "wrapper_descriptor" "__get__" "wrapper_descriptor.__get__" :=
  .of (owner := "wrapper_descriptor") (n := "__get__") (by rw [typeLookup_type, builtinLookup_eq_fast]; kernel_rfl) (by decide +kernel) (by decide +kernel) (by decide +kernel)
    (by first | exact .inl (by decide +kernel) | exact .inr (by decide +kernel)) (by rw [isSubtype_type]; kernel_rfl)
theorem wd_entry_get : entryFor table "wrapper_descriptor.__get__" = some Builtin.«wrapper_descriptor.__get__» := entryFor_of_tree (by kernel_rfl)
theorem wd_args_get (a b c : Value) : argsOk "wrapper_descriptor.__get__" ⟨[a, b, c], []⟩ := by unfold argsOk; kernel_rfl
theorem li_next_type : typeOf (.builtin "list_iterator.__next__") = pure (.type "wrapper_descriptor") := by show builtinType _ = _; rw [builtinType_eq_fast]; kernel_rfl
theorem li_set_none : typeLookup (.type "wrapper_descriptor") "__set__" = pure none := by rw [typeLookup_type, builtinLookup_eq_fast]; kernel_rfl
theorem li_del_none : typeLookup (.type "wrapper_descriptor") "__delete__" = pure none := by rw [typeLookup_type, builtinLookup_eq_fast]; kernel_rfl
theorem li_sub_owner : isSubtype (.type "list_iterator") (.type (".".intercalate ("list_iterator.__next__".cutAt '.').dropLast)) = pure true := by
  have e0 : "list_iterator.__next__".cutAt '.' = ["list_iterator", "__next__"] := by first | rfl | decide +kernel
  rw [e0, isSubtype_type]; kernel_rfl
end
section
variable {prog : Program} {w : World} {A : Around} {E : Value → Shared → Prop} {h : Heap} {g : Array GenState} {d : Drawn} {t : Nat} {os : OsState} {a : Addr} {o : Obj}
theorem li_get {R : Result → Shared → Prop} (hx : h.get? a = some o) (hc : o.cls = .type "list_iterator") (hq : R (.ok (.ret (.ref h.objs.size))) ⟨h.push (mwObj a), g, d, t, os⟩) :
    codeAny (model prog w) A (.call (.builtin "wrapper_descriptor.__get__") ⟨[.builtin "list_iterator.__next__", .ref a, .type "list_iterator"], []⟩) R ⟨h, g, d, t, os⟩ := by
  have hT : (⟨h, g, d, t, os⟩ : Shared).TypeIs (.ref a) "list_iterator" := ⟨_, hx, hc⟩
  have hT5 : (⟨h, g, d, t, os⟩ : Shared).TypeIs (.builtin "list_iterator.__next__") "wrapper_descriptor" := li_next_type
  have f8 := li_sub_owner
  refine codeAny_call_builtin wd_slot_get.plain wd_entry_get (wd_slot_get.check _ _ _ _ _ _ _ _ hT5 (wd_args_get _ _ _) ?_)
  repeat (any_goals (first | assumption | wp_step))

theorem li_lk_next : typeLookup (.type "list_iterator") "__next__" = pure (some (.builtin "list_iterator.__next__")) := slot_listiter_next.lookup
theorem li_entry {l : Value} {i : Value} {tk : Tok} {Q : Fin → Shared → Prop} (hx : h.get? a = some { cls := .type "list_iterator", data := .fields #[l, i] }) (hq : Q (.done (.ret (.ref h.objs.size))) ⟨h.push (mwObj a), g, d, t, os⟩) :
    wpAny (model prog w) A (Builtin.«object.__getattribute__» ⟨[.ref a, .str "__next__" tk], []⟩) Q E ⟨h, g, d, t, os⟩ := by
  have hT : (⟨h, g, d, t, os⟩ : Shared).TypeIs (.ref a) "list_iterator" := ⟨_, hx, rfl⟩
  have hT5 : (⟨h, g, d, t, os⟩ : Shared).TypeIs (.builtin "list_iterator.__next__") "wrapper_descriptor" := li_next_type
  have f4 := li_lk_next
  have f5 := li_next_type
  have f6 := wd_slot_get.lookup
  have f7 := li_set_none
  have f8 := li_del_none
  repeat (any_goals (first | assumption | wp_step))
  refine li_get hx rfl ?_
  repeat (any_goals (first | assumption | wp_step))
theorem li_getattr_none : typeLookup (.type "list_iterator") "__getattr__" = pure none := by rw [typeLookup_type, builtinLookup_eq_fast]; kernel_rfl
theorem li_by {l i : Value} {tk : Tok} {Q : Value → Shared → Prop} (hx : h.get? a = some { cls := .type "list_iterator", data := .fields #[l, i] }) (hq : Q (.ref h.objs.size) ⟨h.push (mwObj a), g, d, t, os⟩) :
    wpAny (model prog w) A (getAttrBy (.ref a) (.str "__next__" tk) true true) Q E ⟨h, g, d, t, os⟩ := by
  have hT : (⟨h, g, d, t, os⟩ : Shared).TypeIs (.ref a) "list_iterator" := ⟨_, hx, rfl⟩
  have f2 := li_slot_ga.lookup
  have f3 := li_slot_ga.bind (.ref a)
  unfold getAttrBy
  repeat (any_goals (first | assumption | ((with_reducible show wpAny _ _ (call (Value.builtin "object.__getattribute__") _ _) _ _ _); refine wpAny_call_entry li_slot_ga hT F.entry_object_getattribute (li_entry hx ?_) (F.args_object_getattribute_2 _ _)) | wp_step))
  refine ⟨_, rfl, ?_⟩
  repeat (any_goals (first | assumption | wp_step))
end
section
variable {prog : Program} {w : World} {M : Model} {A : Around} {E : Value → Shared → Prop} {s : Shared} {h₀ : Heap} {L : Addr} {m : Str → Option Value} {news : List (Addr × Obj)}
theorem getattr_next {a : Addr} {l i : Value} {Q : Value → Shared → Prop} (F : Fr h₀ L s.heap m) (N : News h₀ L s.heap news) (hm : (a, ({ cls := .type "list_iterator", data := .fields #[l, i] } : Obj)) ∈ news)
    (h : ∀ x h', Fr h₀ L h' m → News h₀ L h' ((x, mwObj a) :: news) → (∀ q ∈ news, @LT.lt Nat _ q.1 x) → Q (.ref x) { s with heap := h', toks := s.toks + 1 }) :
    wpAny (model prog w) A (getAttr (.ref a) "__next__" true) Q E s := by
  obtain ⟨hp, g, d, t, os⟩ := s
  unfold getAttr
  refine wpAny_bind (m := mkText _) ?_
  repeat (any_goals (first | assumption | ((with_reducible show wpAny _ _ (getAttrBy _ _ _ _) _ _ _); refine li_by (N _ hm).1 ?_) | wp_step))
  exact h _ _ (F.push _) (News.push F N _ rfl) (fun q hq => Heap.lt_size (N q hq).1)

theorem mw_callWith {pos : Pos} {u a : Addr} {Q : Value → Shared → Prop} (N : News h₀ L s.heap news) (hm : (u, mwObj a) ∈ news)
    (h : wpAny M A (call (.ref u) []) Q E s) : wpAny M A (callWith pos (.ref u) [] [] []) Q E s := by
  have ho := (N _ hm).1
  unfold callWith
  refine wpAny_bind (wpAny_holding (evalArgs_nil3 (wpAny_bind (wpAny_standAt ?_))))
  simp only [List.any_nil, Bool.or_false]
  refine wpAny_bind (m := keeperOf (.ref u)) ?_
  unfold keeperOf
  refine wpAny_bind (wpAny_load ho ?_)
  simp only [show (Value.type "method-wrapper" != Value.type "method") = true by decide, show (Value.type "method-wrapper" == Value.type "builtin_function_or_method" || Value.type "method-wrapper" == Value.type "method-wrapper") = true by decide, if_true]
  refine wpAny_pure ?_
  exact wpAny_bind (wpAny_mono h (fun r s₂ hr => wpAny_bind (wpAny_holding (wpAny_point (wpAny_pure hr)))) fun _ _ x => x)
theorem mw_check (I : Addr) : checkBoundCall "list_iterator.__next__" ⟨[.ref I], []⟩ = pure () := by first | kernel_rfl | rfl
theorem mw_quiet {as : Args} : (Code.builtin "list_iterator.__next__" as).quiet = true := Code.quiet_builtin _ (by decide +kernel)
theorem mw_call_item {x I l : Addr} {i : Nat} {items : Array Value} {v : Value} {Q : Value → Shared → Prop} (ho : s.heap.get? x = some (mwObj I)) (hI : s.heap.get? I = some { cls := .type "list_iterator", data := .fields #[.ref l, .int i 0] }) (hl : s.heap.IsList l items) (hx : items[i]? = some v)
    (hQ : ∀ h', h'.get? I = some { cls := .type "list_iterator", data := .fields #[.ref l, .int ((i : Int) + 1) 0] } → Heap.SameBut I s.heap h' → Q v { s with heap := h' }) : wpAny (model prog w) A (call (.ref x) []) Q E s := by
  refine wpAny_call (codeAny_of_tree ?_)
  show wpAny _ A.in1 (callAny (.ref x) ⟨[], []⟩) _ _ s
  simp only [callAny]
  refine wpAny_bind (wpAny_load ho ?_)
  simp only [show (Value.type "method-wrapper" == Value.type "method" || Value.type "method-wrapper" == Value.type "builtin_function_or_method" || Value.type "method-wrapper" == Value.type "method-wrapper") = true by decide, if_true]
  refine KFB.if_so (by decide) ?_
  refine wpAny_bind (wpAny_of_eq (a := ()) (mw_check I) ?_)
  refine wpAny_bind (wpAny_pure (wpAny_pure ?_))
  refine ⟨mw_quiet, codeAny_builtin entry_listiter_next ?_⟩
  have hd : ({ cls := .type "list_iterator", data := .fields #[.ref l, .int i 0] } : Obj).data = .fields #[.ref l, .int i 0] := rfl
  obtain ⟨ol, hol, _, nl, hdl⟩ := hl
  show wpAny _ _ (field (.ref I) 0 >>= _) _ _ s
  refine wpAny_bind (wpAny_field hI hd (x := .ref l) rfl ?_)
  show wpAny _ _ (if (Value.ref l == Value.none) = true then _ else _) _ _ s
  rw [if_neg (show ¬ ((Value.ref l == Value.none) = true) from Bool.false_ne_true)]
  show wpAny _ _ (field (.ref I) 1 >>= _) _ _ s
  refine wpAny_bind (wpAny_field hI hd (x := .int i 0) rfl ?_)
  show wpAny _ _ (seqItems? (.ref l) >>= _) _ _ s
  refine wpAny_bind (wpAny_seqItems hol hdl ?_)
  simp only [Int.toNat_natCast, hx]
  refine wpAny_bind (wpAny_setField hI hd (by simp) (wpAny_pure ?_))
  refine hQ _ ?_ (Heap.SameBut.update ..)
  rw [Heap.get?_update_self _ hI rfl]
  rfl
theorem mw_call_end {x I l : Addr} {i : Nat} {items : Array Value} {Q : Value → Shared → Prop} (hh : A.handled = none) (ho : s.heap.get? x = some (mwObj I)) (hI : s.heap.get? I = some { cls := .type "list_iterator", data := .fields #[.ref l, .int i 0] }) (hl : s.heap.IsList l items) (hx : items[i]? = none)
    (hE : ∀ h1 h' e, Heap.SameBut I s.heap h1 → Heap.MadeExc h1 h' e "StopIteration" [] → E (.ref e) { s with heap := h' }) : wpAny (model prog w) A (call (.ref x) []) Q E s := by
  refine wpAny_call (codeAny_of_tree ?_)
  show wpAny _ A.in1 (callAny (.ref x) ⟨[], []⟩) _ _ s
  simp only [callAny]
  refine wpAny_bind (wpAny_load ho ?_)
  simp only [show (Value.type "method-wrapper" == Value.type "method" || Value.type "method-wrapper" == Value.type "builtin_function_or_method" || Value.type "method-wrapper" == Value.type "method-wrapper") = true by decide, if_true]
  refine KFB.if_so (by decide) ?_
  refine wpAny_bind (wpAny_of_eq (a := ()) (mw_check I) ?_)
  refine wpAny_bind (wpAny_pure (wpAny_pure ?_))
  refine ⟨mw_quiet, codeAny_builtin entry_listiter_next ?_⟩
  have hd : ({ cls := .type "list_iterator", data := .fields #[.ref l, .int i 0] } : Obj).data = .fields #[.ref l, .int i 0] := rfl
  obtain ⟨ol, hol, _, nl, hdl⟩ := hl
  show wpAny _ _ (field (.ref I) 0 >>= _) _ _ s
  refine wpAny_bind (wpAny_field hI hd (x := .ref l) rfl ?_)
  show wpAny _ _ (if (Value.ref l == Value.none) = true then _ else _) _ _ s
  rw [if_neg (show ¬ ((Value.ref l == Value.none) = true) from Bool.false_ne_true)]
  show wpAny _ _ (field (.ref I) 1 >>= _) _ _ s
  refine wpAny_bind (wpAny_field hI hd (x := .int i 0) rfl ?_)
  show wpAny _ _ (seqItems? (.ref l) >>= _) _ _ s
  refine wpAny_bind (wpAny_seqItems hol hdl ?_)
  simp only [Int.toNat_natCast, hx]
  refine wpAny_bind (wpAny_rule (wpAny_bind (wpAny_setField hI hd (by simp) ?_)))
  show wpAny _ _ (newExc (.type "StopIteration") [] >>= _) _ _ _
  refine wpAny_bind ?_
  simp only [newExc, newTuple]
  refine wpAny_bind (wpAny_newObj_type ?_ (by size_fits))
  refine wpAny_bind (m := firstArgMember _ _) (wpAny_of_eq (a := Value.none) (by first | rfl | (simp only [firstArgMember]; rfl)) ?_)
  refine wpAny_newObj_type ?_ (by size_fits)
  simp only [raiseNew]
  refine wpAny_bind (wpAny_handled ?_)
  rw [show (A.under (Code.builtin "list_iterator.__next__" ⟨[#[Value.builtin "list_iterator.__next__", Value.ref I][1]], []⟩)).handled = none from hh]
  refine wpAny_throw ?_
  have own : ownMembersOf (.type "StopIteration") [] = #[] := rfl
  rw [own]
  refine hE (s.heap.update I (Obj.mapFields fun x => x.setIfInBounds 0 Value.none)) _ _ (Heap.SameBut.update ..) ⟨fun b o hb => Heap.get?_push_of_some _ (Heap.get?_push_of_some _ hb), Heap.get?_none_of_le (by rw [Heap.size_push]; exact Nat.le_succ _), _, Heap.get?_push_size _ rfl, Heap.get?_none_of_le (Nat.le_refl _), Heap.get?_push_of_some _ (Heap.get?_push_size _ rfl)⟩
end
end

section
open PySem PySem.W PyProof.Rows PySem.Calls
theorem stopiter_exc : isSubtype (.type "StopIteration") (.type "BaseException") = pure true := by rw [isSubtype_type]; kernel_rfl
theorem stopiter_meta : isSubtype (.type ((Manifest.find? "StopIteration").elim "type" fun y => y.metatype)) (.type "tuple") = pure false := by
  rw [show ((Manifest.find? "StopIteration").elim "type" fun x => x.metatype) = "type" from by kernel_rfl, isSubtype_type]; kernel_rfl
section
variable {prog : Program} {w : World} {A₀ : Around} {E : Value → Shared → Prop} {s : Shared} {hb : Heap} {L a : Addr} {m : Str → Option Value} {name : Str} {scope : Scope} {cd : Value} {l : List Env} {frs new : List (Addr × Obj)}
theorem mw_item {X I l0 : Addr} {n : Nat} {its : Array Value} {v : Value} {A : Around} {Q : Value → Shared → Prop} (F : Fr hb L s.heap m)
    (N : News hb L s.heap ((X, mwObj I) :: (I, { cls := .type "list_iterator", data := .fields #[.ref l0, .int ((0 : Nat) : Int) 0] }) :: new)) (hl : (l0, W.listOf its n) ∈ new) (hx : its[0]? = some v) (hXI : @Ne Nat X I) (hI : ∀ q ∈ new, @Ne Nat q.1 I)
    (h : ∀ h', Fr hb L h' m → News hb L h' ((X, mwObj I) :: (I, { cls := .type "list_iterator", data := .fields #[.ref l0, .int ((1 : Nat) : Int) 0] }) :: new) → Q v { s with heap := h' }) :
    wpAny (model prog w) A (call (.ref X) []) Q E s := by
  have NX := N _ (.head _)
  have NI := N _ (.tail _ (.head _))
  have Nl := N _ (.tail _ (.tail _ hl))
  refine mw_call_item NX.1 NI.1 ⟨_, Nl.1, rfl, _, rfl⟩ hx fun h1 e1 sb => ?_
  refine h h1 (F.change sb NI.2.1 NI.2.2) fun q hq => ?_
  rcases List.mem_cons.mp hq with rfl | hq
  · exact ⟨sb.extBut _ _ hXI NX.1, NX.2⟩
  · rcases List.mem_cons.mp hq with rfl | hq
    · exact ⟨e1, NI.2⟩
    · have n := N q (.tail _ (.tail _ hq)); exact ⟨sb.extBut _ _ (hI q hq) n.1, n.2⟩
theorem mw_caught {X I l0 : Addr} {i n : Nat} {its : Array Value} {x : Str} {np pos : Pos} {b₀ : Stmt} {suite : List Stmt} {rest : List ExceptHandler} {Q₁ : Value → Shared → Prop} {Q₂ : Flow → Shared → Prop}
    (hh : A₀.handled = none) (hfr : A₀.frames = some l) (Fs : TI.Frs l frs) (F : Fr hb L s.heap m)
    (N : News hb L s.heap ((X, mwObj I) :: (I, { cls := .type "list_iterator", data := .fields #[.ref l0, .int i 0] }) :: (new ++ frs))) (hl : (l0, W.listOf its n) ∈ new) (hx : its[i]? = none)
    (hXI : @Ne Nat X I) (hI : ∀ q ∈ new ++ frs, @Ne Nat q.1 I) (hap : ∀ p ∈ (X, mwObj I) :: new, ∀ q ∈ frs, @Ne Nat q.1 p.1)
    (hnm : ∀ (A' : Around) (E' : Value → Shared → Prop) (s₂ : Shared), Fr hb L s₂.heap m → wpAny (model prog w) A' (eval (.Name x np) (envOf name scope L a cd)) (fun v s₁ => v = .type "StopIteration" ∧ s₁ = s₂) E' s₂)
    (k : ∀ e h' frs', TI.SameUp frs frs' → TI.Frs l frs' → Fr hb L h' m → News hb L h' ((X, mwObj I) :: (new ++ frs')) →
      wpAny (model prog w) ((A₀.deeper (envOf name scope L a cd)).mark (some (.ref e))) (execs (b₀ :: suite) (envOf name scope L a cd)) Q₂ E { s with heap := h' })
    (hk : scope.kind = .function := by rfl)
    (hE : ∀ e, PassesOwnAt (model prog w) ((A₀.deeper (envOf name scope L a cd)).mark (some (.ref e))) (A₀.deeper (envOf name scope L a cd)) (envOf name scope L a cd) E := by intro _; passes_own) :
    wpAny (model prog w) (A₀.deeper (envOf name scope L a cd)) (call (.ref X) []) Q₁ (fun e s₁ => wpAny (model prog w) (A₀.deeper (envOf name scope L a cd)) (noteFrame e (envOf name scope L a cd))
      (fun _ s₂ => wpAny (model prog w) (A₀.deeper (envOf name scope L a cd)) (setFlight e none) (fun _ s₃ =>
        wpAny (model prog w) (A₀.deeper (envOf name scope L a cd)) (handleBy e (envOf name scope L a cd) (.ExceptHandler (some (.Name x np)) none (b₀ :: suite) pos :: rest)) Q₂ E s₃) E s₂) E s₁) s := by
  have NX := N _ (.head _)
  have NI := N _ (.tail _ (.head _))
  have Nl := N _ (.tail _ (.tail _ (List.mem_append_left _ hl)))
  refine mw_call_end hh NX.1 NI.1 ⟨_, Nl.1, rfl, _, rfl⟩ hx fun h1 h' e sb hm => ?_
  have F1 : Fr hb L h1 m := F.change sb NI.2.1 NI.2.2
  have N1 : News hb L h1 ((X, mwObj I) :: (new ++ frs)) := fun q hq => by
    rcases List.mem_cons.mp hq with rfl | hq
    · exact ⟨sb.extBut _ _ hXI NX.1, NX.2⟩
    · have n := N q (.tail _ (.tail _ hq)); exact ⟨sb.extBut _ _ (hI q hq) n.1, n.2⟩
  refine TLg.noted_newA (X := "StopIteration") (new := (X, mwObj I) :: new) hfr Fs (s' := { s with heap := h' }) hm.newExc F1 N1 (fun p hp hmem => ?_) (fun h2 frs' SU Fs' H => ?_) hk
  · rcases List.mem_cons.mp hmem with e | hmem
    · exact (N1 p (List.mem_append_left _ hp)).2.1 e
    · obtain ⟨q, hq, e⟩ := List.mem_map.mp hmem
      exact hap p hp q hq e
  refine H.land (s' := { s with heap := h2 }) fun h3 H3 => ?_
  refine wpAny_handleBy_builtin (X := "StopIteration") (T := "StopIteration") (b := true) stopiter_exc stopiter_meta (by rw [isSubtype_type]; kernel_rfl) (wpAny_mono (hnm _ _ _ H3.held.fr) (fun v s₁ hv => ?_) fun _ _ z => z)
  obtain ⟨rfl, rfl⟩ := hv
  refine ⟨rfl, H3.isA (s' := { s with heap := h3 }), ?_⟩
  rw [if_pos rfl]
  exact H3.lands (s' := { s with heap := h3 }) fun h4 F4 N4 => wpAny_passesOwnAt (hE e) (k e h4 frs' SU Fs' F4 N4)
end
end

section
open PySem PySem.W PyProof.Rows PySem.Calls
open PyProof.Rows.LCg PyProof.Rows.LCt
set_option maxHeartbeats 2000000
@[reducible] def valsObj (d : Addr) : Obj := { cls := .type "dict_values", data := .fields #[.ref d] }
section
variable {prog : Program} {w : World} {A : Around} {E : Value → Shared → Prop} {s : Shared} {h₀ : Heap} {L : Addr} {m : Str → Option Value} {env : Env}
def SrcV (prog : Program) (w : World) (A : Around) (h₀ : Heap) (L : Addr) (m : Str → Option Value) (env : Env) (ct elt : PySem.Expr) (x : Str) (scope : Scope) (cl : List (Str × Addr)) (Fin : Shared → List Value → List (Addr × Obj) → Prop) (xv : Value) (s₁ : Shared) : Prop :=
  ∃ v d o kvs news, xv = .ref v ∧ A.handled = none ∧ Fr h₀ L s₁.heap m ∧ News h₀ L s₁.heap news ∧ (v, valsObj d) ∈ news ∧ (d, o) ∈ news ∧ o.IsDictOf (PySem.strKind prog w) kvs ∧ kvs.length ≤ sizeLine ∧
    ∀ s₂ : Shared, (∃ h, s₂ = { s₁ with heap := h }) → CompRestT prog w A h₀ L m env ct elt x scope cl s₂ (fun nw => (d, o) ∈ nw) (fun i v => ∃ y, kvs[i]? = some (y, v)) (Fin s₂) kvs.length 0 [] news
theorem ListComp_V {ct elt iter : PySem.Expr} {x : Str} {px : Pos} {scope : Scope} {cl : List (Str × Addr)} {pos : Pos} {Q : Value → Shared → Prop} (_F₀ : Fr h₀ L s.heap m)
    (hclos : closureFor scope env = pure cl) (hcell : ∀ y ∈ scope.names, y.2 ≠ .cell) (hkind : scope.kind = .function)
    (hnames : ∀ y ∈ scope.names, y.2 = .local → scope.names.lookup y.1 = some .local) (hx : scope.names.lookup x = some .local)
    (h : wpAny (model prog w) A (eval iter env) (SrcV prog w A h₀ L m env ct elt x scope cl (fun s₂ => FinE h₀ L m s₂ Q)) E s)
    (hs : ∀ x, foldedSetIterable iter env x = pure x := by intro _; rfl) :
    wpAny (model prog w) A (eval (.ListComp elt [⟨.Name x px, iter, [ct], 0⟩] scope pos) env) Q E s := by
  rw [eval_ListComp]
  refine wpAny_comprehension_free (use := none) rfl hs hclos hkind hnames (wpAny_mono h (fun xv s₁ h₁ => ?_) fun _ _ e => e)
  obtain ⟨v, d, o, kvs, news, rfl, hh, F, N, hv, hd, ho, hsz, R⟩ := h₁
  obtain ⟨ep, hat⟩ := KdkAt.of ho
  have hvN := N _ hv
  have hdN := N _ hd
  have hlt : d < s₁.heap.objs.size := Heap.lt_size hdN.1
  refine wpAny_pyIter_values (knd := PySem.strKind prog w) ⟨_, hvN.1, rfl, rfl⟩ (hat.dictAt hdN.1) ?_
  have up : ∀ b o, s₁.heap.get? b = some o → (s₁.heap.push { cls := .type "dict_valueiterator", data := .fields #[.ref d, .int 0 0, .int kvs.length 0, .int ep 0] }).get? b = some o := fun b o e => Heap.get?_push_of_some _ e
  refine block_T (S := fun nw => (d, o) ∈ nw) (Walks.dictValues (knd := PySem.strKind prog w) hh s₁.heap.objs.size d (Nat.ne_of_lt hlt) kvs ep) hsz (fun i h st => by obtain ⟨o, e, _⟩ := st.1; exact ⟨o, e⟩)
    (fun i h h' ob nw st e e' _ N' hm => ⟨by obtain ⟨o', q, r⟩ := st.1; rw [e] at q; cases q; exact ⟨ob, e', r⟩, hat.dictAt (N' _ hm).1⟩) hcell hkind hx ⟨⟨_, Heap.get?_push_size _ rfl, rfl, rfl⟩, hat.dictAt (up _ _ hdN.1)⟩ (fun b hb => ?_)
    (F.keeps up) (N.grown up) (Nat.ne_of_lt F.ns.lt) (next_is_new F) (fun p hp => Nat.ne_of_lt (Heap.lt_size (N p hp).1)) hd (R _ ⟨_, rfl⟩) ?_
  · show b < (s₁.heap.push _).objs.size
    rw [Heap.size_push]
    rcases List.mem_cons.mp hb with rfl | hb
    · exact Nat.lt_succ_self _
    · rw [List.mem_singleton.mp hb]; exact Nat.lt_succ_of_lt hlt
  · intro D C h tk m' ys news' F' N' o1 hn hC₀ hD₀ hCL hDL hCD offC fin
    refine ⟨m', hn, fun h'' hs'' => fin D h'' tk (F'.change hs'' hCL hC₀) (fun p hp => ?_) o1⟩
    refine ⟨hs''.extBut _ _ ?_ (N' p hp).1, (N' p hp).2⟩
    rcases List.mem_cons.mp hp with rfl | hp
    · exact Ne.symm hCD
    · exact offC p hp
theorem CompEnd.mono {m : Str → Option Value} {s₁ : Shared} {I C D : Addr} {oI oC oD : Obj} {S : List (Addr × Obj) → Prop} {r r' : Value → List (Addr × Obj) → Prop} {y : Value} {s₂ : Shared} (h : CompEnd h₀ L m s₁ I oI C oC D oD S r y s₂) (k : ∀ n, r y n → r' y n) : CompEnd h₀ L m s₁ I oI C oC D oD S r' y s₂ :=
  let ⟨a, b, c, e, F, N, o, z, q⟩ := h; ⟨a, b, c, e, F, N, o, z, k _ q⟩
theorem compT_ind {ct elt : PySem.Expr} {x : Str} {scope : Scope} {cl : List (Str × Addr)} {S : List (Addr × Obj) → Prop} {P : Nat → Value → Prop} {Fin : List Value → List (Addr × Obj) → Prop} {news : List (Addr × Obj)} {n : Nat} (J : Nat → List Value → Prop)
    (h0 : J 0 []) (done : ∀ ys, J n ys → Fin ys news)
    (turn : ∀ i ys v I oI C oC D m₂ h tk (E' : Value → Shared → Prop), i < n → J i ys → P i v → NsObj oC m₂ → m₂ x = some v → Fr h₀ L h m → News h₀ L h ((I, oI) :: (C, oC) :: (D, lst ys) :: news) → Off3 I C D news → ((@Ne Nat I C) ∧ (@Ne Nat I D) ∧ (@Ne Nat C D)) →
      wpAny (model prog w) A (isTrue ct (compEnvC scope cl C env) (eval ct (compEnvC scope cl C env))) (fun ok s' => if ok = true then
        wpAny (model prog w) A (eval elt (compEnvC scope cl C env)) (CompEnd h₀ L m { s with heap := h, toks := tk } I oI C oC D (lst ys) S (fun y news' => news' = news ∧ J (i + 1) (ys ++ [y]))) E' s'
        else CompEnd h₀ L m { s with heap := h, toks := tk } I oI C oC D (lst ys) S (fun _ news' => news' = news ∧ J (i + 1) ys) Value.none s') E' { s with heap := h, toks := tk }) :
    CompRestT prog w A h₀ L m env ct elt x scope cl s S P Fin n 0 [] news := by
  have key : ∀ k i ys, i + k = n → J i ys → CompRestT prog w A h₀ L m env ct elt x scope cl s S P Fin k i ys news := by
    intro k
    induction k with
    | zero => intro i ys hik hJ; exact CompRestT.zero (done ys (by rw [← hik]; exact hJ))
    | succ k ih =>
      intro i ys hik hJ
      refine CompRestT.succ fun v I oI C oC D m₂ h tk E' hP hC hx F N off ne => ?_
      refine wpAny_mono (turn i ys v I oI C oC D m₂ h tk E' (by omega) hJ hP hC hx F N off ne) (fun ok s' hok => ?_) fun _ _ z => z
      cases ok with
      | true =>
        simp only [if_true] at hok ⊢
        exact wpAny_mono hok (fun y s₂ hy => CompEnd.mono hy fun nw q => by obtain ⟨rfl, hJ'⟩ := q; exact ih (i + 1) _ (by omega) hJ') fun _ _ z => z
      | false =>
        simp only [Bool.false_eq_true, if_false] at hok ⊢
        exact CompEnd.mono hok fun nw q => by obtain ⟨rfl, hJ'⟩ := q; exact ih (i + 1) _ (by omega) hJ'
  exact key n 0 [] (Nat.zero_add _) h0
end
end

section
open PySem PySem.W PyProof.Rows PySem.Calls
theorem fill_S9f (w : World) : PySem.Challenge.rw_rt0101_01 = PySem.Challenge.rw_rt0101_01 ∨ Mine.hd.heap_1 w.params = [] := by
  k_fill
  exact Or.inl rfl
theorem map1_turn3 {m : Str → Option Value} {x : Str} {v v' v'' : Option Value} : (fun w => if w = x then v else if w = x then v' else if w = x then v'' else m w) = fun w => if w = x then v else m w := funext fun _ => mp_c fun h0 => (if_neg h0).trans (if_neg h0)
theorem chunk_split {ns : List NR} {i : Nat} {r : NR} (h : ns[i]? = some r) : ∀ q ∈ chunk ns, q ∈ ent r ∨ q ∈ restS ns [i] := fun q hq => by
  obtain ⟨j, r', hj, hr⟩ := mem_chunk.mp hq
  by_cases e : j = i
  · subst e; rw [h] at hj; cases hj; exact .inl hr
  · exact .inr (mem_restS.mpr ⟨j, r', hj, by simpa using e, hr⟩)
theorem seen_step {ns : List NR} {i : Nat} {r : NR} {S : Str → Bool} (h : ns[i]? = some r) (hS : ∀ y, S y = ((ns.take i).map (·.y)).contains y) : ∀ y, (S y || decide (y = r.y)) = ((ns.take (i + 1)).map (·.y)).contains y := fun y => by
  rw [hS, List.take_add_one, h, Option.toList_some, List.map_append, List.contains_eq_any_beq, List.contains_eq_any_beq, List.any_append]
  congr 1
  simp only [List.map_cons, List.map_nil, List.any_cons, List.any_nil, Bool.or_false]
  exact Bool.eq_iff_iff.mpr (by simp)
theorem lt_of_map {a b : List (Addr × Obj)} {I : Addr} (e : a.map (·.1) = b.map (·.1)) (h : ∀ p ∈ b, @LT.lt Nat _ p.1 I) : ∀ p ∈ a, @Ne Nat p.1 I := off_of e fun p hp => Nat.ne_of_lt (h p hp)
theorem allM {P : Addr × Obj → Prop} {a b c : Addr × Obj} {u v : List (Addr × Obj)} (h : ∀ q ∈ a :: b :: c :: u, P q) (g : ∀ q ∈ v, P q) : ∀ q ∈ a :: b :: c :: (u ++ v), P q := fun q hq => by
  have : a :: b :: c :: (u ++ v) = (a :: b :: c :: u) ++ v := rfl
  rw [this] at hq
  exact (List.mem_append.mp hq).elim (h q) (g q)
theorem orS {S : Str → Bool} {y z : Str} (h : S y = true) : (fun k' => S k' || decide (k' = z)) y = true := by
  show (S y || decide (y = z)) = true
  rw [h]; rfl
local macro_rules | `(tactic| walk_at "compareOp In str ref") => `(tactic| (k_here; (with_reducible show wpAny _ _ (compareOp CmpOp.In (Value.str _ _) (Value.ref _)) _ _ _); refine' set_inS ?N ?p ?d ?z ?y ?_; (case N => k_asm); (case p => k_mem); (case d => assumption); (case z => kse_small); (case y => first | assumption | exact orS (by assumption)); (try dsimp only)))
local macro_rules | `(tactic| walk_at "call builtin:set.add") => `(tactic| (k_here; dsimp only; refine' kse_add (knd := PySem.strKind _ _) ?F ?N ?U ?d ?z (strKind_is _ _ _ _) rfl ?_; (case F => k_asm); (case N => k_asm); (case U => k_updF); (case d => k_asm); (case z => kse_small); intro h' o' F' N' hs'; (try dsimp only at N')))
local macro_rules | `(tactic| walk_at "call builtin:iter") => `(tactic| (refine stop_it ?_))
local macro_rules | `(tactic| walk_at "getAttr ref") => `(tactic| (k_here; (with_reducible show wpAny _ _ (getAttr (Value.ref _) (Str.ofString "__next__") true) _ _ _); refine stop_it ?_))
local macro_rules | `(tactic| walk_at "callWith ref") => `(tactic| (k_here; (show wpAny _ _ (callWith _ (Value.ref _) [] [] []) _ _ _); refine' mw_callWith ?N ?m ?_; (case N => k_asm); (case m => k_mem)))
local macro_rules | `(tactic| walk_at "call builtin:list.append") => `(tactic| (k_here; dsimp only [List.cons_append, List.nil_append]; refine' append_K ?g1 ?g2 ?g3 ?_ ?z; (case g1 => k_asm); (case g2 => k_asm); (case g3 => k_upd); (case z => size_fits); intro h' F' N'))
theorem valueAt_one (y : Str) (v : Value) : (valueAt [(y, v)] y).isSome = true := by rw [valueAt_cons, if_pos rfl]; rfl
theorem valueAt_other {y z : Str} {v : Value} (h : y ≠ z) : (valueAt [(y, v)] z).isSome = false := by rw [valueAt_cons, if_neg h]; rfl
theorem without_one (y : Str) (v : Value) : without [(y, v)] y = [] := by simp [without]
local macro_rules | `(tactic| walk_at "delItem ref str") => `(tactic| (k_here; refine' kob_del (knd := PySem.strKind _ _) ?F ?N ?U ?d (strKind_is _ _ _ _) (valueAt_one _ _) ?z ?_; (case F => k_asm); (case N => k_asm); (case U => k_updF); (case d => k_asm); (case z => (show 1 ≤ sizeLine; rw [sizeLine_eq]; decide)); intro h' o' F' N' hd'; (try dsimp only at N')))
local macro_rules | `(tactic| walk_at "compareOp In str ref") => `(tactic| (k_here; refine' kda_in (knd := PySem.strKind _ _) ?N ?p ?d ?lo (strKind_is _ _ _ _) false (valueAt_other ?ne) ?_; (case N => k_asm); (case p => k_mem); (case d => k_asm); (case lo => assumption); (case ne => assumption)))
inductive JS9 (prog : Program) (w : World) (x dx d d2 se it st : Addr) (t0 t1 t2 t3 : Tok) (rv pv fv : Value) (o : Obj) (ns : List NR) (l : List Env) (frs : List (Addr × Obj)) (m0 : Str → Option Value) (i : Nat) (m : Str → Option Value) (news : List (Addr × Obj)) : Prop
  | mk (un : Option Value) (eit est : Nat) (so oD : Obj) (Sg : Str → Bool) (frs' : List (Addr × Obj)) : m = (fun y => if y = Str.ofString "node" then un else m0 y) →
      news = (d2, oD) :: (se, so) :: (it, W.listOf #[] eit) :: (st, W.listOf #[] est) :: (x, instObj 172 dx) :: (dx, sDict w t0 t1 t2 t3 d rv pv fv) :: (d, o) :: (chunk ns ++ frs') → TI.SameUp frs frs' → TI.Frs l frs' →
      so.SetObjOf (PySem.strKind prog w) Sg i → (∀ y, Sg y = ((ns.take i).map (·.y)).contains y) → oD.IsDictOf (PySem.strKind prog w) [] → JS9 prog w x dx d d2 se it st t0 t1 t2 t3 rv pv fv o ns l frs m0 i m news
set_option maxHeartbeats 4000000 in
theorem find_spec {prog : Program} {w : World} {A : Around} {E : Value → Shared → Prop} {s : Shared} {p : Program} {loose : List Str} {mean : ExcName → Option Value} {mg mb : Str → Option Value} {H0 : Heap}
    (rm : Rm A 50) (G : Gnd w p loose mean mg mb H0) (k : H0.StaysIn s.heap) {x dx d : Addr} {o : Obj} {ns : List NR} {t0 t1 t2 t3 : Tok} {rv pv fv : Value} {t : List Nat} {l : List Env} {frs : List (Addr × Obj)} {Q : Value → Shared → Prop}
    (hfr : A.frames = some l) (Fs : TI.Frs l frs) (Sf : ∀ q ∈ frs, s.heap.get? q.1 = some q.2) (Sfn : ∀ q ∈ frs, H0.get? q.1 = none) (hap : ∀ p ∈ (x, instObj 172 dx) :: (dx, sDict w t0 t1 t2 t3 d rv pv fv) :: (d, o) :: chunk ns, ∀ q ∈ frs, @Ne Nat q.1 p.1)
    (S : ∀ q ∈ (x, instObj 172 dx) :: (dx, sDict w t0 t1 t2 t3 d rv pv fv) :: (d, o) :: chunk ns, s.heap.get? q.1 = some q.2)
    (Sn : ∀ q ∈ (x, instObj 172 dx) :: (dx, sDict w t0 t1 t2 t3 d rv pv fv) :: (d, o) :: chunk ns, H0.get? q.1 = none)
    (nd : (x :: dx :: d :: addrs ns).Nodup) (ho : o.IsDictOf (PySem.strKind prog w) (kvsOf ns)) (lo : (d == sysModules) = false)
    (hsz : ns.length ≤ 7) (ny : (ns.map (·.y)).Nodup)
    (h0v : ∀ r, ns[0]? = some r → r.sv = []) (hpv : ∀ (u : Nat) r, ns[u + 1]? = some r → ∃ (rp : NR) (tp : Tok), ns[t.getD u 0]? = some rp ∧ r.sv = [Value.str rp.y tp] ∧ t.getD u 0 ≤ u)
    (h : ∀ h' tk frs', TI.SameUp frs frs' → (∀ q ∈ frs', h'.get? q.1 = some q.2) → (∀ b z, b ∉ frs.map (·.1) → s.heap.get? b = some z → h'.get? b = some z) → Q .none { s with heap := h', toks := tk }) :
    wpAny (model prog w) A (call (.ref 162) [.ref x] []) Q E s := by
  obtain ⟨hd', d', fr, gs, u⟩ := A
  obtain rfl : hd' = none := rm.hh
  obtain rfl : fr = some l := hfr
  refine wpAny_call ?_
  w_on
  refine' enter_plain (M := (x, instObj 172 dx) :: (dx, sDict w t0 t1 t2 t3 d rv pv fv) :: (d, o) :: (chunk ns ++ frs)) (binds := [(Str.ofString "self", Value.ref x)]) G k ?k6 ?k7 ?k8 (allM S Sf) (allM Sn Sfn) ?k9 ?kB ?_ ?c5 ?c2 ?c3 ?c4
  walk_at "m_plain"
  intro L' h' g' hL hg kg F' N'
  obtain ⟨X', T', C1', C2'⟩ := G.keeps kg
  have e1 : @Ne Nat x dx := fun e => (List.nodup_cons.mp nd).1 (e ▸ .head _)
  have e2 : @Ne Nat x d := fun e => (List.nodup_cons.mp nd).1 (e ▸ .tail _ (.head _))
  have e4 : @Ne Nat dx d := fun e => (List.nodup_cons.mp (List.nodup_cons.mp nd).2).1 (e ▸ .head _)
  have mk1 := mark
  have mk2 := mark
  k_steps
  unfold Stop
  rename_i st hh1 lA hh2 it hh3 lB hh4 se hh5 led hsI hsS lC hh6 d2 hh7 o2 lo2 hd2 fs hi fi lD hh8 F5 N5
  clear hsI fs hi fi
  with_unfolding_all refine' For_invVF F5 ?k1 ?k2 ?_
  case k1 => exact rfl
  case k2 => exact rfl
  k_steps
  unfold Stop
  rename Fr _ _ _ _ => F6
  rename News _ _ _ _ => N6
  obtain ⟨c1, c2, c3, c4⟩ := lA
  obtain ⟨b1, b2, b3, b4, b5⟩ := lB
  obtain ⟨f1, f2, f3, f4, f5, f6⟩ := lC
  obtain ⟨g1, g2, g3, g4, g5, g6, g7⟩ := lD
  have c5 := allLt_mem c4
  have b6 := allLt_mem b5
  have f7 := allLt_mem f6
  have g8 := allLt_mem g7
  refine' dictN (m₀ := ?m) (l := d) (o := o) (kvs := kvsOf ns) (JS9 prog w x dx d d2 se it st t0 t1 t2 t3 rv pv fv o ns l frs ?m) rfl F6 N6 ho lo (List.mem_of_getElem? (i := 6) rfl) ?hJc ?h0 ?turn ?done
  case hJc =>
    rintro i m news ⟨un, eit, est, so, oD, Sg, frs', rfl, rfl, _⟩
    exact List.mem_of_getElem? (i := 6) rfl
  case h0 => exact ⟨_, _, _, _, _, _, frs, map1_start rfl, rfl, TI.SameUp.refl _, Fs, hsS, fun y => by simp, hd2⟩
  case turn =>
    rintro J' hJ' ⟨h7, g7, dr7, tk7, os7⟩ I i y t m₁ news₁ o3 hi hv ⟨un, eit, est, so, oD, Sg, fr1, rfl, rfl, SU1, Fs1, hso, hS, hoD⟩ hne F7 N7
    change Fr g' L' h7 _ at F7
    change News g' L' h7 _ at N7
    refine opq fun QQ hQQ => ?_
    have hin : i < ns.length := by simpa [kvsOf] using hi
    obtain ⟨r, hr⟩ : ∃ r, ns[i]? = some r := ⟨_, List.getElem?_eq_getElem hin⟩
    obtain rfl : r.y = y := by
      have : (kvsOf ns).map (·.1) = ns.map (·.y) := by unfold kvsOf; rw [List.map_map]; rfl
      rw [this, List.getElem?_map, hr] at hv
      exact Option.some.inj hv
    have hSi : Sg r.y = false := by
      rw [hS]
      have := nodup_not_take ny hr
      simpa using this
    have a0 : @Ne Nat d2 I := hne _ (List.mem_of_getElem? (i := 0) rfl)
    have a1 : @Ne Nat se I := hne _ (List.mem_of_getElem? (i := 1) rfl)
    have a2 : @Ne Nat it I := hne _ (List.mem_of_getElem? (i := 2) rfl)
    have a3 : @Ne Nat st I := hne _ (List.mem_of_getElem? (i := 3) rfl)
    have a4 : @Ne Nat x I := hne _ (List.mem_of_getElem? (i := 4) rfl)
    have a5 : @Ne Nat dx I := hne _ (List.mem_of_getElem? (i := 5) rfl)
    have a6 : @Ne Nat d I := hne _ (List.mem_of_getElem? (i := 6) rfl)
    have a7 : ∀ q ∈ chunk ns ++ fr1, @Ne Nat q.1 I := fun q hq => hne q (.tail _ (.tail _ (.tail _ (.tail _ (.tail _ (.tail _ (.tail _ hq)))))))
    have hval := valueAt_kvs ny hr
    have hsub := ent_sub hr
    have up1 : ∀ q ∈ fr1, ∃ p ∈ frs, q.1 = p.1 := TI.SameUp.fwd SU1
    have zz : ∀ {fr : List (Addr × Obj)}, TI.SameUp frs fr → ∀ {z : Addr}, (∀ q ∈ chunk ns ++ frs, @LT.lt Nat _ q.1 z) → ∀ q ∈ restS ns [i] ++ fr, @Ne Nat q.1 z := fun SU _ hz q hq => by
      rcases List.mem_append.mp hq with hq | hq
      · exact Nat.ne_of_lt (hz q (List.mem_append_left _ (rest_sub q hq)))
      · obtain ⟨p, hp, e⟩ := TI.SameUp.fwd SU q hq
        rw [e]; exact Nat.ne_of_lt (hz p (List.mem_append_right _ hp))
    have z1 := zz SU1 g8
    have z2 := zz SU1 f7
    have z3 := zz SU1 b6
    have z4 := zz SU1 c5
    have y1 : @LT.lt Nat _ r.inf d2 := g8 _ (List.mem_append_left _ (hsub _ (.head _)))
    have y2 : @LT.lt Nat _ r.dx d2 := g8 _ (List.mem_append_left _ (hsub _ (.tail _ (.head _))))
    have y3 : @LT.lt Nat _ r.sl d2 := g8 _ (List.mem_append_left _ (hsub _ (.tail _ (.tail _ (.head _)))))
    have y4 : @LT.lt Nat _ r.inf se := f7 _ (List.mem_append_left _ (hsub _ (.head _)))
    have y5 : @LT.lt Nat _ r.dx se := f7 _ (List.mem_append_left _ (hsub _ (.tail _ (.head _))))
    have y6 : @LT.lt Nat _ r.sl se := f7 _ (List.mem_append_left _ (hsub _ (.tail _ (.tail _ (.head _)))))
    have y7 : @LT.lt Nat _ r.inf it := b6 _ (List.mem_append_left _ (hsub _ (.head _)))
    have y8 : @LT.lt Nat _ r.dx it := b6 _ (List.mem_append_left _ (hsub _ (.tail _ (.head _))))
    have y9 : @LT.lt Nat _ r.sl it := b6 _ (List.mem_append_left _ (hsub _ (.tail _ (.tail _ (.head _)))))
    have x1 : @LT.lt Nat _ r.inf st := c5 _ (List.mem_append_left _ (hsub _ (.head _)))
    have x2 : @LT.lt Nat _ r.dx st := c5 _ (List.mem_append_left _ (hsub _ (.tail _ (.head _))))
    have x3 : @LT.lt Nat _ r.sl st := c5 _ (List.mem_append_left _ (hsub _ (.tail _ (.tail _ (.head _)))))
    have N8 : News g' L' h7 ((I, o3) :: (d2, oD) :: (se, so) :: (it, W.listOf #[] eit) :: (st, W.listOf #[] est) :: (x, instObj 172 dx) :: (dx, sDict w t0 t1 t2 t3 d rv pv fv) :: (d, o) :: (r.inf, nObj r.dx r.y r.ty (.int r.np r.tnp) r.sl) :: (r.dx, dictOf [] 0) :: (r.sl, W.listOf r.sv.toArray r.e) :: (restS ns [i] ++ fr1)) := news_of N7 (by
      refine fa_cons ?_ (fa_cons ?_ (fa_cons ?_ (fa_cons ?_ (fa_cons ?_ (fa_cons ?_ (fa_cons ?_ (fa_cons ?_ (fa_cons (.tail _ (.tail _ (.tail _ (.tail _ (.tail _ (.tail _ (.tail _ (.tail _ (List.mem_append_left _ (hsub _ (.head _))))))))))) (fa_cons (.tail _ (.tail _ (.tail _ (.tail _ (.tail _ (.tail _ (.tail _ (.tail _ (List.mem_append_left _ (hsub _ (.tail _ (.head _)))))))))))) (fa_cons (.tail _ (.tail _ (.tail _ (.tail _ (.tail _ (.tail _ (.tail _ (.tail _ (List.mem_append_left _ (hsub _ (.tail _ (.tail _ (.head _))))))))))))) (fa_app (fun q hq => .tail _ (.tail _ (.tail _ (.tail _ (.tail _ (.tail _ (.tail _ (.tail _ (List.mem_append_left _ (rest_sub q hq)))))))))) (fun q hq => .tail _ (.tail _ (.tail _ (.tail _ (.tail _ (.tail _ (.tail _ (.tail _ (List.mem_append_right _ hq))))))))))))))))))))
      all_goals walk_at "m_mem")
    clear N7 hv
    rcases i with _ | u
    · have hsv : r.sv.toArray = #[] := by rw [h0v r hr]
      rw [hsv] at N8
      (try dsimp only)
      k_steps
      unfold Stop
      refine' iter_list ?F ?N (its := #[]) (l := r.sl) (n := r.e) ?l ?_
      case F => k_asm
      case N => k_asm
      case l => k_mem
      intro J hJ FJ NJ lJ
      k_steps
      unfold Stop
      refine' getattr_next ?F ?N (a := J) ?l ?_
      case F => k_asm
      case N => k_asm
      case l => k_mem
      intro X hX FX NX lX
      have p0 : @LT.lt Nat _ I J := lJ _ (List.mem_of_getElem? (i := 0) rfl)
      have p1 : @LT.lt Nat _ d2 J := lJ _ (List.mem_of_getElem? (i := 1) rfl)
      have p2 : @LT.lt Nat _ se J := lJ _ (List.mem_of_getElem? (i := 2) rfl)
      have p3 : @LT.lt Nat _ it J := lJ _ (List.mem_of_getElem? (i := 3) rfl)
      have p4 : @LT.lt Nat _ st J := lJ _ (List.mem_of_getElem? (i := 4) rfl)
      have w0 : @LT.lt Nat _ J X := lX _ (List.mem_of_getElem? (i := 0) rfl)
      have w1 : @LT.lt Nat _ I X := lX _ (List.mem_of_getElem? (i := 1) rfl)
      have w2 : @LT.lt Nat _ d2 X := lX _ (List.mem_of_getElem? (i := 2) rfl)
      have w3 : @LT.lt Nat _ se X := lX _ (List.mem_of_getElem? (i := 3) rfl)
      have w4 : @LT.lt Nat _ it X := lX _ (List.mem_of_getElem? (i := 4) rfl)
      have w5 : @LT.lt Nat _ st X := lX _ (List.mem_of_getElem? (i := 5) rfl)
      clear NJ FJ N8 F7
      k_steps
      unfold Stop
      rename Fr _ _ _ _ => F9
      rename News _ _ _ _ => N9
      obtain ⟨soA, oDA, tkA, ea, eb, N9, hsA, hdA⟩ : ∃ (soA oDA : Obj) (tkA : Tok) (ea eb : Nat), News g' L' _ ((X, mwObj J) :: (J, { cls := .type "list_iterator", data := .fields #[.ref r.sl, .int ((0 : Nat) : Int) 0] }) :: ((I, o3) :: (d2, oDA) :: (se, soA) :: (it, W.listOf #[.ref X] ea) :: (st, W.listOf #[.str r.y t] eb) :: (x, instObj 172 dx) :: (dx, sDict w t0 t1 t2 t3 d rv pv fv) :: (d, o) :: (r.inf, nObj r.dx r.y r.ty (.int r.np r.tnp) r.sl) :: (r.dx, dictOf [] 0) :: (r.sl, W.listOf #[] r.e) :: restS ns [0] ++ fr1)) ∧
          soA.SetObjOf (PySem.strKind prog w) (fun k' => Sg k' || decide (k' = r.y)) (if Sg r.y = true then 0 else 0 + 1) ∧ oDA.IsDictOf (PySem.strKind prog w) [(r.y, Value.int 0 tkA)] := ⟨_, _, _, _, _, N9, by assumption, by assumption⟩
      have apf : ∀ p ∈ (x, instObj 172 dx) :: (dx, sDict w t0 t1 t2 t3 d rv pv fv) :: (d, o) :: chunk ns, ∀ q ∈ fr1, @Ne Nat q.1 p.1 := fun p hp q hq => by
        obtain ⟨p', hp', e⟩ := up1 q hq
        rw [e]; exact hap p hp p' hp'
      have hJn : ∀ q ∈ (I, o3) :: (d2, oDA) :: (se, soA) :: (it, W.listOf #[.ref X] ea) :: (st, W.listOf #[.str r.y t] eb) :: (x, instObj 172 dx) :: (dx, sDict w t0 t1 t2 t3 d rv pv fv) :: (d, o) :: (r.inf, nObj r.dx r.y r.ty (.int r.np r.tnp) r.sl) :: (r.dx, dictOf [] 0) :: (r.sl, W.listOf #[] r.e) :: restS ns [0] ++ fr1, @Ne Nat q.1 J := lt_of_map (by rfl) lJ
      refine' mw_caught (hb := g') (L := L') (i := 0) (new := (I, o3) :: (d2, oDA) :: (se, soA) :: (it, W.listOf #[.ref X] ea) :: (st, W.listOf #[.str r.y t] eb) :: (x, instObj 172 dx) :: (dx, sDict w t0 t1 t2 t3 d rv pv fv) :: (d, o) :: (r.inf, nObj r.dx r.y r.ty (.int r.np r.tnp) r.sl) :: (r.dx, dictOf [] 0) :: (r.sl, W.listOf #[] r.e) :: restS ns [0]) (frs := fr1) (l := l) (its := #[]) (n := r.e) rfl rfl Fs1 F9 N9 ?m1 rfl (Nat.ne_of_gt w0) hJn ?m3 ?m4 ?_
      case m1 => exact List.mem_of_getElem? (i := 10) rfl
      case m3 =>
        exact fa_cons (fun q hq => Nat.ne_of_lt (lX q (by walk_at "m_mem"))) (fa_cons (fun q hq => a7 q (List.mem_append_right _ hq)) (fa_cons (fun q hq => z1 q (List.mem_append_right _ hq)) (fa_cons (fun q hq => z2 q (List.mem_append_right _ hq)) (fa_cons (fun q hq => z3 q (List.mem_append_right _ hq)) (fa_cons (fun q hq => z4 q (List.mem_append_right _ hq)) (fa_cons (apf _ (.head _)) (fa_cons (apf _ (.tail _ (.head _))) (fa_cons (apf _ (.tail _ (.tail _ (.head _)))) (fa_cons (apf _ (.tail _ (.tail _ (.tail _ (hsub _ (.head _)))))) (fa_cons (apf _ (.tail _ (.tail _ (.tail _ (hsub _ (.tail _ (.head _))))))) (fa_cons (apf _ (.tail _ (.tail _ (.tail _ (hsub _ (by rw [← hsv]; exact .tail _ (.tail _ (.head _)))))))) (fun p hp => apf _ (.tail _ (.tail _ (.tail _ (rest_sub _ hp))))))))))))))))
      case m4 =>
        intro A' E' s₂ kF
        refine' name_B kF ?k1 ?k2 ?k3 ?k4 ?k5 ?_
        case k1 => k_asm
        case k2 => k_asm
        case k3 => k_is
        case k4 => boot_by_name
        case k5 => decide
        exact ⟨rfl, rfl⟩
      intro e hE fr2 SU2 Fs2 F10 N10
      have SU3 := TI.SameUp.trans SU1 SU2
      clear z1 z2 z3 z4
      have z1 := zz SU3 g8
      have z2 := zz SU3 f7
      have z3 := zz SU3 b6
      have z4 := zz SU3 c5
      simp only [List.cons_append] at N10
      clear F9 N9 hoD
      k_steps
      rename Fr _ _ _ _ => F12
      rename News _ _ _ _ => N12
      obtain ⟨oE, eit2, est2, N12, hdE⟩ : ∃ (oE : Obj) (eit2 est2 : Nat), News g' L' _ ((X, mwObj J) :: (I, o3) :: (d2, oE) :: (se, soA) :: (it, W.listOf #[] eit2) :: (st, W.listOf #[] est2) :: (x, instObj 172 dx) :: (dx, sDict w t0 t1 t2 t3 d rv pv fv) :: (d, o) :: (r.inf, nObj r.dx r.y r.ty (.int r.np r.tnp) r.sl) :: (r.dx, dictOf [] 0) :: (r.sl, W.listOf #[] r.e) :: (restS ns [0] ++ fr2)) ∧ oE.IsDictOf (PySem.strKind prog w) (without [(r.y, Value.int 0 tkA)] r.y) := ⟨_, _, _, N12, by assumption⟩
      rw [without_one] at hdE
      rw [if_neg (by rw [hSi]; decide)] at hsA
      refine hQQ _ _ (EndN.mk' ((d2, oE) :: (se, soA) :: (it, W.listOf #[] eit2) :: (st, W.listOf #[] est2) :: (x, instObj 172 dx) :: (dx, sDict w t0 t1 t2 t3 d rv pv fv) :: (d, o) :: (chunk ns ++ fr2)) F12 N12 (.tail _ (.head _)) ?_ ?_ (hJ' _ _ _ ?_))
      · refine fa_cons ?_ (fa_cons ?_ (fa_cons ?_ (fa_cons ?_ (fa_cons ?_ (fa_cons ?_ (fa_cons ?_ (fa_app ?_ ?_)))))))
        case refine_8 =>
          intro q hq0
          rcases chunk_split hr q hq0 with hq | hq
          · clear hq0
            revert q
            unfold ent
            rw [hsv]
            walk_at "m_sub"
          · walk_at "m_mem"
        case refine_9 => exact fun q hq => by walk_at "m_mem"
        all_goals walk_at "m_mem"
      · refine fa_cons a0 (fa_cons a1 (fa_cons a2 (fa_cons a3 (fa_cons a4 (fa_cons a5 (fa_cons a6 (fa_app (fun q hq => a7 q (List.mem_append_left _ hq)) fun q hq => ?_)))))))
        obtain ⟨p', hp', e⟩ := TI.SameUp.fwd SU2 q hq
        rw [e]; exact a7 p' (List.mem_append_right _ hp')
      · exact ⟨_, eit2, est2, soA, oE, _, fr2, map1_turn, rfl, SU3, Fs2, hsA, seen_step hr hS, hdE⟩
    · obtain ⟨rp, tp, hp1, hp2, hp3⟩ := hpv u r hr
      have hsv : r.sv.toArray = #[.str rp.y tp] := by rw [hp2]
      rw [hsv] at N8
      have hSp : Sg rp.y = true := by
        rw [hS, List.contains_eq_any_beq, List.any_eq_true]
        refine ⟨rp.y, List.mem_map.mpr ⟨rp, ?_, rfl⟩, by simp⟩
        exact List.mem_of_getElem? ((List.getElem?_take_of_lt (by omega)).trans hp1)
      have hSp2 : (Sg rp.y || decide (rp.y = r.y)) = true := by rw [hSp]; rfl
      have hyz : r.y ≠ rp.y := fun e => by rw [e, hSp] at hSi; cases hSi
      (try dsimp only)
      k_steps
      unfold Stop
      refine' iter_list ?F ?N (its := #[.str rp.y tp]) (l := r.sl) (n := r.e) ?l ?_
      case F => k_asm
      case N => k_asm
      case l => k_mem
      intro J hJ FJ NJ lJ
      k_steps
      unfold Stop
      refine' getattr_next ?F ?N (a := J) ?l ?_
      case F => k_asm
      case N => k_asm
      case l => k_mem
      intro X hX FX NX lX
      have p0 : @LT.lt Nat _ I J := lJ _ (List.mem_of_getElem? (i := 0) rfl)
      have p1 : @LT.lt Nat _ d2 J := lJ _ (List.mem_of_getElem? (i := 1) rfl)
      have p2 : @LT.lt Nat _ se J := lJ _ (List.mem_of_getElem? (i := 2) rfl)
      have p3 : @LT.lt Nat _ it J := lJ _ (List.mem_of_getElem? (i := 3) rfl)
      have p4 : @LT.lt Nat _ st J := lJ _ (List.mem_of_getElem? (i := 4) rfl)
      have w0 : @LT.lt Nat _ J X := lX _ (List.mem_of_getElem? (i := 0) rfl)
      have w1 : @LT.lt Nat _ I X := lX _ (List.mem_of_getElem? (i := 1) rfl)
      have w2 : @LT.lt Nat _ d2 X := lX _ (List.mem_of_getElem? (i := 2) rfl)
      have w3 : @LT.lt Nat _ se X := lX _ (List.mem_of_getElem? (i := 3) rfl)
      have w4 : @LT.lt Nat _ it X := lX _ (List.mem_of_getElem? (i := 4) rfl)
      have w5 : @LT.lt Nat _ st X := lX _ (List.mem_of_getElem? (i := 5) rfl)
      clear NJ FJ N8 F7
      k_steps
      unfold Stop
      rename Fr _ _ _ _ => F9
      rename News _ _ _ _ => N9
      obtain ⟨soA, oDA, tkA, ea, eb, N9, hsA, hdA⟩ : ∃ (soA oDA : Obj) (tkA : Tok) (ea eb : Nat), News g' L' _ ((X, mwObj J) :: (J, { cls := .type "list_iterator", data := .fields #[.ref r.sl, .int ((0 : Nat) : Int) 0] }) :: ((I, o3) :: (d2, oDA) :: (se, soA) :: (it, W.listOf #[.ref X] ea) :: (st, W.listOf #[.str r.y t] eb) :: (x, instObj 172 dx) :: (dx, sDict w t0 t1 t2 t3 d rv pv fv) :: (d, o) :: (r.inf, nObj r.dx r.y r.ty (.int r.np r.tnp) r.sl) :: (r.dx, dictOf [] 0) :: (r.sl, W.listOf #[.str rp.y tp] r.e) :: restS ns [u + 1] ++ fr1)) ∧
          soA.SetObjOf (PySem.strKind prog w) (fun k' => Sg k' || decide (k' = r.y)) (if Sg r.y = true then u + 1 else u + 1 + 1) ∧ oDA.IsDictOf (PySem.strKind prog w) [(r.y, Value.int 0 tkA)] := ⟨_, _, _, _, _, N9, by assumption, by assumption⟩
      have apf : ∀ p ∈ (x, instObj 172 dx) :: (dx, sDict w t0 t1 t2 t3 d rv pv fv) :: (d, o) :: chunk ns, ∀ q ∈ fr1, @Ne Nat q.1 p.1 := fun p hp q hq => by
        obtain ⟨p', hp', e⟩ := up1 q hq
        rw [e]; exact hap p hp p' hp'
      have hJn : ∀ q ∈ (I, o3) :: (d2, oDA) :: (se, soA) :: (it, W.listOf #[.ref X] ea) :: (st, W.listOf #[.str r.y t] eb) :: (x, instObj 172 dx) :: (dx, sDict w t0 t1 t2 t3 d rv pv fv) :: (d, o) :: (r.inf, nObj r.dx r.y r.ty (.int r.np r.tnp) r.sl) :: (r.dx, dictOf [] 0) :: (r.sl, W.listOf #[.str rp.y tp] r.e) :: restS ns [u + 1] ++ fr1, @Ne Nat q.1 J := lt_of_map (by rfl) lJ
      refine' mw_item (hb := g') (L := L') (v := .str rp.y tp) (its := #[.str rp.y tp]) (n := r.e) F9 N9 ?m1 rfl (Nat.ne_of_gt w0) hJn ?_
      case m1 => exact List.mem_of_getElem? (i := 10) rfl
      intro h10 F10 N10
      clear F9 N9
      simp only [List.cons_append] at N10
      k_steps
      unfold Stop
      rename Fr _ _ _ _ => F9
      rename News _ _ _ _ => N9
      refine' mw_caught (hb := g') (L := L') (i := 1) (new := (I, o3) :: (d2, oDA) :: (se, soA) :: (it, W.listOf #[.ref X] ea) :: (st, W.listOf #[.str r.y t] eb) :: (x, instObj 172 dx) :: (dx, sDict w t0 t1 t2 t3 d rv pv fv) :: (d, o) :: (r.inf, nObj r.dx r.y r.ty (.int r.np r.tnp) r.sl) :: (r.dx, dictOf [] 0) :: (r.sl, W.listOf #[.str rp.y tp] r.e) :: restS ns [u + 1]) (frs := fr1) (l := l) (its := #[.str rp.y tp]) (n := r.e) rfl rfl Fs1 F9 N9 ?m1 rfl (Nat.ne_of_gt w0) hJn ?m3 ?m4 ?_
      case m1 => exact List.mem_of_getElem? (i := 10) rfl
      case m3 =>
        exact fa_cons (fun q hq => Nat.ne_of_lt (lX q (by walk_at "m_mem"))) (fa_cons (fun q hq => a7 q (List.mem_append_right _ hq)) (fa_cons (fun q hq => z1 q (List.mem_append_right _ hq)) (fa_cons (fun q hq => z2 q (List.mem_append_right _ hq)) (fa_cons (fun q hq => z3 q (List.mem_append_right _ hq)) (fa_cons (fun q hq => z4 q (List.mem_append_right _ hq)) (fa_cons (apf _ (.head _)) (fa_cons (apf _ (.tail _ (.head _))) (fa_cons (apf _ (.tail _ (.tail _ (.head _)))) (fa_cons (apf _ (.tail _ (.tail _ (.tail _ (hsub _ (.head _)))))) (fa_cons (apf _ (.tail _ (.tail _ (.tail _ (hsub _ (.tail _ (.head _))))))) (fa_cons (apf _ (.tail _ (.tail _ (.tail _ (hsub _ (by rw [← hsv]; exact .tail _ (.tail _ (.head _)))))))) (fun p hp => apf _ (.tail _ (.tail _ (.tail _ (rest_sub _ hp))))))))))))))))
      case m4 =>
        intro A' E' s₂ kF
        refine' name_B kF ?k1 ?k2 ?k3 ?k4 ?k5 ?_
        case k1 => k_asm
        case k2 => k_asm
        case k3 => k_is
        case k4 => boot_by_name
        case k5 => decide
        exact ⟨rfl, rfl⟩
      intro e hE fr2 SU2 Fs2 F10 N10
      have SU3 := TI.SameUp.trans SU1 SU2
      clear z1 z2 z3 z4
      have z1 := zz SU3 g8
      have z2 := zz SU3 f7
      have z3 := zz SU3 b6
      have z4 := zz SU3 c5
      simp only [List.cons_append] at N10
      clear F9 N9 hoD
      k_steps
      rename Fr _ _ _ _ => F12
      rename News _ _ _ _ => N12
      obtain ⟨oE, eit2, est2, N12, hdE⟩ : ∃ (oE : Obj) (eit2 est2 : Nat), News g' L' _ ((X, mwObj J) :: (I, o3) :: (d2, oE) :: (se, soA) :: (it, W.listOf #[] eit2) :: (st, W.listOf #[] est2) :: (x, instObj 172 dx) :: (dx, sDict w t0 t1 t2 t3 d rv pv fv) :: (d, o) :: (r.inf, nObj r.dx r.y r.ty (.int r.np r.tnp) r.sl) :: (r.dx, dictOf [] 0) :: (r.sl, W.listOf #[.str rp.y tp] r.e) :: (restS ns [u + 1] ++ fr2)) ∧ oE.IsDictOf (PySem.strKind prog w) (without [(r.y, Value.int 0 tkA)] r.y) := ⟨_, _, _, N12, by assumption⟩
      rw [without_one] at hdE
      rw [if_neg (by rw [hSi]; decide)] at hsA
      refine hQQ _ _ (EndN.mk' ((d2, oE) :: (se, soA) :: (it, W.listOf #[] eit2) :: (st, W.listOf #[] est2) :: (x, instObj 172 dx) :: (dx, sDict w t0 t1 t2 t3 d rv pv fv) :: (d, o) :: (chunk ns ++ fr2)) F12 N12 (.tail _ (.head _)) ?_ ?_ (hJ' _ _ _ ?_))
      · refine fa_cons ?_ (fa_cons ?_ (fa_cons ?_ (fa_cons ?_ (fa_cons ?_ (fa_cons ?_ (fa_cons ?_ (fa_app ?_ ?_)))))))
        case refine_8 =>
          intro q hq0
          rcases chunk_split hr q hq0 with hq | hq
          · clear hq0
            revert q
            unfold ent
            rw [hsv]
            walk_at "m_sub"
          · walk_at "m_mem"
        case refine_9 => exact fun q hq => by walk_at "m_mem"
        all_goals walk_at "m_mem"
      · refine fa_cons a0 (fa_cons a1 (fa_cons a2 (fa_cons a3 (fa_cons a4 (fa_cons a5 (fa_cons a6 (fa_app (fun q hq => a7 q (List.mem_append_left _ hq)) fun q hq => ?_)))))))
        obtain ⟨p', hp', e⟩ := TI.SameUp.fwd SU2 q hq
        rw [e]; exact a7 p' (List.mem_append_right _ hp')
      · exact ⟨_, eit2, est2, soA, oE, _, fr2, map1_turn3, rfl, SU3, Fs2, hsA, seen_step hr hS, hdE⟩
  case done =>
    rintro m' news' h7 tk7 ⟨un, eit, est, so, oD, Sg, fr1, rfl, rfl, SU1, Fs1, hso, hS, hoD⟩ F7 N7
    change Fr g' L' h7 _ at F7
    change News g' L' h7 _ at N7
    dsimp only
    k_steps
    rename Fr _ _ _ _ => F9
    rename News _ _ _ _ => N9
    refine h _ _ fr1 SU1 (fun q hq => (N9 q ?_).1) ?_
    · walk_at "m_mem"
    · intro b z hb e
      by_cases hbm : b ∈ ((x, instObj 172 dx) :: (dx, sDict w t0 t1 t2 t3 d rv pv fv) :: (d, o) :: chunk ns).map (·.1)
      · obtain ⟨q, hq, rfl⟩ := List.mem_map.mp hbm
        have h1 := S q hq
        rw [h1] at e; cases e
        refine (N9 q ?_).1
        clear h1 hb hbm
        revert q
        walk_at "m_sub"
      · refine kept_many hg F9 b z ?_ e
        intro hm
        rw [show (x, instObj 172 dx) :: (dx, sDict w t0 t1 t2 t3 d rv pv fv) :: (d, o) :: (chunk ns ++ frs) = ((x, instObj 172 dx) :: (dx, sDict w t0 t1 t2 t3 d rv pv fv) :: (d, o) :: chunk ns) ++ frs from rfl, List.map_append, List.mem_append] at hm
        exact hm.elim hbm hb
end

section
open PySem PySem.W PyProof.Rows PySem.Calls
theorem fill_S9p (w : World) : PySem.Challenge.rw_rt0101_01 = PySem.Challenge.rw_rt0101_01 ∨ Mine.hd.heap_1 w.params = [] := by
  k_fill
  exact Or.inl rfl
/-- who is ready at the start, of the first i -/
def startI (ns : List NR) (i : Nat) : List Nat := (List.range i).filter fun v => decide ((ns.map (·.np)).getD v 1 = 0)
theorem startI_succ {ns : List NR} {i : Nat} {r : NR} (h : ns[i]? = some r) : startI ns (i + 1) = if r.np = 0 then startI ns i ++ [i] else startI ns i := by
  unfold startI
  rw [List.range_succ, List.filter_append]
  have e : (ns.map (·.np)).getD i 1 = r.np := by rw [List.getD_eq_getElem?_getD, List.getElem?_map, h]; rfl
  by_cases hz : r.np = 0
  · rw [if_pos hz, List.filter_cons_of_pos (by rw [e]; simpa using hz)]; rfl
  · rw [if_neg hz, List.filter_cons_of_neg (by rw [e]; simpa using hz)]; simp
theorem off1_mem {D : Addr} : ∀ {l : List (Addr × Obj)}, LCg.Off1 D l → ∀ q ∈ l, @Ne Nat q.1 D
  | [], _, _, hq => nomatch hq
  | _ :: _, h, q, hq => by
    rcases List.mem_cons.mp hq with rfl | hq
    · exact h.1
    · exact off1_mem h.2 q hq
theorem subC {a b c v1 v2 v3 v4 : Addr × Obj} {ns : List NR} {frs : List (Addr × Obj)} {i : Nat} {r : NR} (hr : ns[i]? = some r) : ∀ p ∈ a :: b :: c :: v1 :: v2 :: v3 :: v4 :: (chunk ns ++ frs), p ∈ a :: b :: c :: v1 :: v2 :: v3 :: v4 :: (r.inf, nObj r.dx r.y r.ty (.int r.np r.tnp) r.sl) :: (r.dx, dictOf [] 0) :: (r.sl, W.listOf r.sv.toArray r.e) :: (restS ns [i] ++ frs) := fun q hq => by
  simp only [List.mem_cons, List.mem_append] at hq ⊢
  rcases hq with hq | hq | hq | hq | hq | hq | hq | hq | hq
  · exact .inl hq
  · exact .inr (.inl hq)
  · exact .inr (.inr (.inl hq))
  · exact .inr (.inr (.inr (.inl hq)))
  · exact .inr (.inr (.inr (.inr (.inl hq))))
  · exact .inr (.inr (.inr (.inr (.inr (.inl hq)))))
  · exact .inr (.inr (.inr (.inr (.inr (.inr (.inl hq))))))
  · rcases chunk_split hr q hq with hq | hq
    · simp only [ent, List.mem_cons, List.not_mem_nil, or_false] at hq
      rcases hq with hq | hq | hq
      · exact .inr (.inr (.inr (.inr (.inr (.inr (.inr (.inl hq)))))))
      · exact .inr (.inr (.inr (.inr (.inr (.inr (.inr (.inr (.inl hq))))))))
      · exact .inr (.inr (.inr (.inr (.inr (.inr (.inr (.inr (.inr (.inl hq)))))))))
    · exact .inr (.inr (.inr (.inr (.inr (.inr (.inr (.inr (.inr (.inr (.inl hq))))))))))
  · exact .inr (.inr (.inr (.inr (.inr (.inr (.inr (.inr (.inr (.inr (.inr hq))))))))))
theorem fr_frames {g h h' : Heap} {L : Addr} {m : Str → Option Value} {oL : Obj} {es : Array DictEntry} {ep : Nat} {sl : Array (Option Value)} {frs : List (Addr × Obj)} (F : Fr g L h m) (hd : oL.data = .dict es ep) (hr : StrKeys es ∧ ∀ name, nsFind es name = m name) (hL : h'.get? L = some { oL with slots := sl })
    (k : ∀ b z, b ∉ ((L, oL) :: frs).map (·.1) → h.get? b = some z → h'.get? b = some z) (hn : ∀ b ∈ frs.map (·.1), g.get? b = none) : Fr g L h' m :=
  ⟨⟨_, es, ep, hL, hd, hr⟩, fun b o e => k b o (fun hm => by
    rcases List.mem_cons.mp hm with q | hm
    · have := F.above
      rw [q] at e
      exact absurd (Heap.lt_size e) (Nat.not_lt.mpr this)
    · rw [hn b hm] at e; cases e) (F.keep b o e), F.above⟩
local macro_rules | `(tactic| walk_at "CompEnd") => `(tactic| (refine stop_it ?_))
local macro_rules | `(tactic| walk_at "eval ListComp") => `(tactic| (refine stop_it ?_))
set_option maxHeartbeats 4000000 in
theorem prepare_spec {prog : Program} {w : World} {A : Around} {E : Value → Shared → Prop} {s : Shared} {p : Program} {loose : List Str} {mean : ExcName → Option Value} {mg mb : Str → Option Value} {H0 : Heap}
    (rm : Rm A 60) (G : Gnd w p loose mean mg mb H0) (k : H0.StaysIn s.heap) {x dx d : Addr} {o : Obj} {ns : List NR} {t0 t1 t2 t3 : Tok} {pv fv : Value} {t : List Nat} {l : List Env} {frs : List (Addr × Obj)} {Q : Value → Shared → Prop}
    (hfr : A.frames = some l) (Fs : TI.Frs l frs) (Sf : ∀ q ∈ frs, s.heap.get? q.1 = some q.2) (Sfn : ∀ q ∈ frs, H0.get? q.1 = none) (hap : ∀ p ∈ (x, instObj 172 dx) :: (dx, sDict w t0 t1 t2 t3 d .none pv fv) :: (d, o) :: chunk ns, ∀ q ∈ frs, @Ne Nat q.1 p.1)
    (S : ∀ q ∈ (x, instObj 172 dx) :: (dx, sDict w t0 t1 t2 t3 d .none pv fv) :: (d, o) :: chunk ns, s.heap.get? q.1 = some q.2)
    (Sn : ∀ q ∈ (x, instObj 172 dx) :: (dx, sDict w t0 t1 t2 t3 d .none pv fv) :: (d, o) :: chunk ns, H0.get? q.1 = none)
    (nd : (x :: dx :: d :: addrs ns).Nodup) (ho : o.IsDictOf (PySem.strKind prog w) (kvsOf ns)) (lo : (d == sysModules) = false)
    (hsz : ns.length ≤ 7) (ny : (ns.map (·.y)).Nodup)
    (h0v : ∀ r, ns[0]? = some r → r.sv = []) (hpv : ∀ (u : Nat) r, ns[u + 1]? = some r → ∃ (rp : NR) (tp : Tok), ns[t.getD u 0]? = some rp ∧ r.sv = [Value.str rp.y tp] ∧ t.getD u 0 ≤ u)
    (h : ∀ h' tk frs' rl ep rdy u0 u1 u2 u3, TI.SameUp frs frs' → TI.Frs l frs' → (∀ q ∈ frs', h'.get? q.1 = some q.2) → (∀ b z, b ∉ frs.map (·.1) → b ≠ dx → s.heap.get? b = some z → h'.get? b = some z) →
      (∀ q ∈ (x, instObj 172 dx) :: (dx, sDict w u0 u1 u2 u3 d (.ref rl) pv fv) :: (d, o) :: (rl, W.listOf rdy.toArray ep) :: chunk ns, h'.get? q.1 = some q.2) → s.heap.get? rl = none → Named ns rdy (startI ns ns.length) → Q .none { s with heap := h', toks := tk }) :
    wpAny (model prog w) A (call (.ref 127) [.ref x] []) Q E s := by
  obtain ⟨hd', d', fr, gs, u⟩ := A
  obtain rfl : hd' = none := rm.hh
  obtain rfl : fr = some l := hfr
  refine wpAny_call ?_
  w_on
  refine' enter_plain (M := (x, instObj 172 dx) :: (dx, sDict w t0 t1 t2 t3 d .none pv fv) :: (d, o) :: (chunk ns ++ frs)) (binds := [(Str.ofString "self", Value.ref x)]) G k ?k6 ?k7 ?k8 (allM S Sf) (allM Sn Sfn) ?k9 ?kB ?_ ?c5 ?c2 ?c3 ?c4
  walk_at "m_plain"
  intro L' h' g' hL hg kg F' N'
  obtain ⟨X', T', C1', C2'⟩ := G.keeps kg
  have e1 : @Ne Nat x dx := fun e => (List.nodup_cons.mp nd).1 (e ▸ .head _)
  have e2 : @Ne Nat x d := fun e => (List.nodup_cons.mp nd).1 (e ▸ .tail _ (.head _))
  have e4 : @Ne Nat dx d := fun e => (List.nodup_cons.mp (List.nodup_cons.mp nd).2).1 (e ▸ .head _)
  k_steps
  unfold Stop
  rename Fr _ _ _ _ => F5
  rename News _ _ _ _ => N5
  refine ListComp_V (_F₀ := F5) (by with_unfolding_all rfl) (by decide) (by rfl) (by decide) (by rfl) ?_
  k_steps
  rename Fr _ _ _ _ => F6
  rename News _ _ _ _ => N6
  rename_i V hV l1
  obtain ⟨v1, v2, v3, v4⟩ := l1
  have v5 := allLt_mem v4
  have hkl : (kvsOf ns).length = ns.length := by simp [kvsOf]
  refine ⟨_, d, o, kvsOf ns, _, rfl, rfl, F6, N6, .head _, .tail _ (.tail _ (.tail _ (.head _))), ho, by rw [hkl, sizeLine_eq]; omega, ?_⟩
  rintro s₂ ⟨g2, rfl⟩
  rw [hkl]
  refine compT_ind (fun i ys => Named ns ys (startI ns i)) ⟨rfl, fun _ _ q => by simp [startI] at q⟩ ?_ ?_
  · intro ys hys D h8 tk8 F8 N8 o1
    have od := off1_mem o1
    have q1 : @Ne Nat dx D := od _ (List.mem_of_getElem? (i := 2) rfl)
    have hcd : dx ∉ addrs ns := fun h => (List.nodup_cons.mp (List.nodup_cons.mp nd).2).1 (.tail _ h)
    have qt : ∀ q ∈ chunk ns ++ frs, @Ne Nat q.1 dx := fun q hq => by
      rcases List.mem_append.mp hq with hq | hq
      · intro e; exact hcd (by rw [← chunk_as, ← e]; exact List.mem_map_of_mem hq)
      · exact hap _ (.tail _ (.head _)) q hq
    clear N5 F5 N6 F6
    k_steps
    unfold Stop
    rename Fr _ _ _ _ => F9
    rename News _ _ _ _ => N9
    obtain ⟨u0, u1, u2, u3, N9⟩ : ∃ u0 u1 u2 u3, News g' L' _ ((D, LCg.lst ys) :: (V, valsObj d) :: (x, instObj 172 dx) :: (dx, sDict w u0 u1 u2 u3 d (.ref D) pv fv) :: (d, o) :: (chunk ns ++ frs)) := ⟨_, _, _, _, N9⟩
    have hk9 : H0.StaysIn _ := fun b o e => F9.keep _ _ (kg _ _ e)
    obtain ⟨oL, esL, epL, hLg, hLd, hLr⟩ := F9.ns
    have hLM : ∀ q ∈ (D, LCg.lst ys) :: (V, valsObj d) :: (x, instObj 172 dx) :: (dx, sDict w u0 u1 u2 u3 d (.ref D) pv fv) :: (d, o) :: (chunk ns ++ frs), @Ne Nat q.1 L' := fun q hq => (N9 q hq).2.1
    refine' find_spec (rm.less (by decide : 51 ≤ 60)).deeper G hk9 (x := x) (dx := dx) (d := d) (o := o) (ns := ns) (t := t) (t0 := u0) (t1 := u1) (t2 := u2) (t3 := u3) (rv := .ref D) (pv := pv) (fv := fv) (frs := (L', oL) :: frs) (Around.frames_deeper rfl) ⟨?f1, rfl, ⟨_, _, hLd⟩, Fs⟩ ?f2 ?f3 ?f4 ?f5 ?f6 nd ho lo hsz ny h0v hpv ?_
    case f1 => intro e; cases e
    case f2 =>
      exact List.forall_mem_cons.mpr ⟨hLg, fun q hq => (N9 q (by walk_at "m_mem")).1⟩
    case f3 =>
      refine List.forall_mem_cons.mpr ⟨?_, Sfn⟩
      show H0.get? L' = none
      cases hq : H0.get? L' with
      | none => rfl
      | some z => exact absurd (Heap.lt_size (k _ _ hq)) (by rw [hL]; exact Nat.lt_irrefl _)
    case f4 =>
      intro p hp
      refine List.forall_mem_cons.mpr ⟨?_, ?_⟩
      · refine Ne.symm (hLM p ?_)
        revert p
        walk_at "m_sub"
      · revert p
        exact fa_cons (hap _ (.head _)) (fa_cons (hap (dx, sDict w t0 t1 t2 t3 d .none pv fv) (.tail _ (.head _))) (fa_cons (hap _ (.tail _ (.tail _ (.head _)))) fun p hp => hap _ (.tail _ (.tail _ (.tail _ hp)))))
    case f5 =>
      intro q hq
      refine (N9 q ?_).1
      revert q
      walk_at "m_sub"
    case f6 => exact fa_cons (Sn _ (.head _)) (fa_cons (Sn (dx, sDict w t0 t1 t2 t3 d .none pv fv) (.tail _ (.head _))) (fa_cons (Sn _ (.tail _ (.tail _ (.head _)))) fun q hq => Sn _ (.tail _ (.tail _ (.tail _ hq)))))
    intro h10 tk10 fr10 SU10 hfr10 hkeep
    cases fr10 with
    | nil => exact SU10.elim
    | cons q0 qs =>
    obtain ⟨eq1, ⟨sl0, eq2⟩, SU'⟩ := SU10
    obtain ⟨qa, qo⟩ := q0
    dsimp only at eq1 eq2
    subst eq1 eq2
    have hqs : ∀ q ∈ qs, h10.get? q.1 = some q.2 := fun q hq => hfr10 q (.tail _ hq)
    have hnf : ∀ q ∈ (D, LCg.lst ys) :: (V, valsObj d) :: (x, instObj 172 dx) :: (dx, sDict w u0 u1 u2 u3 d (.ref D) pv fv) :: (d, o) :: chunk ns, q.1 ∉ frs.map (·.1) := fun q hq hm => by
      obtain ⟨z, hz, e⟩ := List.mem_map.mp hm
      have e1 : z.1 = q.1 := e
      clear hm e
      revert q
      exact fa_cons (od z (by walk_at "m_mem")) (fa_cons (Nat.ne_of_lt (v5 z (List.mem_append_right _ hz))) (fa_cons (hap _ (.head _) z hz) (fa_cons (hap (dx, sDict w t0 t1 t2 t3 d .none pv fv) (.tail _ (.head _)) z hz) (fa_cons (hap _ (.tail _ (.tail _ (.head _))) z hz) fun q hq => hap _ (.tail _ (.tail _ (.tail _ hq))) z hz))))
    have sub9 : ∀ q ∈ (D, LCg.lst ys) :: (V, valsObj d) :: (x, instObj 172 dx) :: (dx, sDict w u0 u1 u2 u3 d (.ref D) pv fv) :: (d, o) :: chunk ns, q ∈ (D, LCg.lst ys) :: (V, valsObj d) :: (x, instObj 172 dx) :: (dx, sDict w u0 u1 u2 u3 d (.ref D) pv fv) :: (d, o) :: (chunk ns ++ frs) := fun q hq => by
      have e0 : (D, LCg.lst ys) :: (V, valsObj d) :: (x, instObj 172 dx) :: (dx, sDict w u0 u1 u2 u3 d (.ref D) pv fv) :: (d, o) :: (chunk ns ++ frs) = ((D, LCg.lst ys) :: (V, valsObj d) :: (x, instObj 172 dx) :: (dx, sDict w u0 u1 u2 u3 d (.ref D) pv fv) :: (d, o) :: chunk ns) ++ frs := rfl
      rw [e0]; exact List.mem_append_left _ hq
    have N10 : News g' qa h10 ((D, LCg.lst ys) :: (V, valsObj d) :: (x, instObj 172 dx) :: (dx, sDict w u0 u1 u2 u3 d (.ref D) pv fv) :: (d, o) :: (chunk ns ++ qs)) := fun q hq => by
      have e0 : (D, LCg.lst ys) :: (V, valsObj d) :: (x, instObj 172 dx) :: (dx, sDict w u0 u1 u2 u3 d (.ref D) pv fv) :: (d, o) :: (chunk ns ++ qs) = ((D, LCg.lst ys) :: (V, valsObj d) :: (x, instObj 172 dx) :: (dx, sDict w u0 u1 u2 u3 d (.ref D) pv fv) :: (d, o) :: chunk ns) ++ qs := rfl
      rw [e0] at hq
      rcases List.mem_append.mp hq with hq | hq
      · have n := N9 q (sub9 q hq)
        exact ⟨hkeep _ _ (fun hm => (List.mem_cons.mp hm).elim n.2.1 (hnf q hq)) n.1, n.2⟩
      · obtain ⟨z, hz, e⟩ := TI.SameUp.fwd SU' q hq
        have n := N9 z (by walk_at "m_mem")
        exact ⟨hqs q hq, by rw [e]; exact n.2.1, by rw [e]; exact n.2.2⟩
    have F10 := fr_frames (sl := sl0) F9 hLd hLr (hfr10 _ (.head _)) hkeep (fun b hb => by
      obtain ⟨z, hz, e⟩ := List.mem_map.mp hb
      rw [← e]
      exact (N9 z (by walk_at "m_mem")).2.2)
    clear F9 N9
    k_steps
    dsimp only
    rename Fr _ _ _ _ => F11
    rename News _ _ _ _ => N11
    have mem11 : ∀ q ∈ (x, instObj 172 dx) :: (dx, sDict w u0 u1 u2 u3 d (.ref D) pv fv) :: (d, o) :: (D, W.listOf ys.toArray ys.length) :: chunk ns, q ∈ (D, LCg.lst ys) :: (V, valsObj d) :: (x, instObj 172 dx) :: (dx, sDict w u0 u1 u2 u3 d (.ref D) pv fv) :: (d, o) :: (chunk ns ++ qs) := fun q hq => by
      revert q
      refine fa_cons ?_ (fa_cons ?_ (fa_cons ?_ (fa_cons (.head _) ?_)))
      all_goals (first | walk_at "m_mem" | walk_at "m_sub")
    refine h _ _ qs D _ ys u0 u1 u2 u3 SU' (TI.Frs.up Fs SU') (fun q hq => (N11 q ?_).1) ?_ (fun q hq => (N11 q (mem11 q hq)).1) ?_ hys
    · walk_at "m_mem"
    · intro b z hb hbd e
      by_cases hbm : b ∈ ((x, instObj 172 dx) :: (dx, sDict w t0 t1 t2 t3 d .none pv fv) :: (d, o) :: chunk ns).map (·.1)
      · obtain ⟨q, hq, rfl⟩ := List.mem_map.mp hbm
        have h1 := S q hq
        rw [h1] at e; cases e
        refine (N11 q ?_).1
        clear h1 hb hbm
        revert q
        refine fa_cons (fun _ => ?_) (fa_cons (fun h => absurd rfl h) (fa_cons (fun _ => ?_) fun q hq _ => ?_))
        all_goals walk_at "m_mem"
      · refine kept_many hg F11 b z ?_ e
        intro hm
        rw [show (x, instObj 172 dx) :: (dx, sDict w t0 t1 t2 t3 d .none pv fv) :: (d, o) :: (chunk ns ++ frs) = ((x, instObj 172 dx) :: (dx, sDict w t0 t1 t2 t3 d .none pv fv) :: (d, o) :: chunk ns) ++ frs from rfl, List.map_append, List.mem_append] at hm
        exact hm.elim hbm hb
    · refine fresh_many hg (N11 _ (.head _)).2.2 fun hm => ?_
      obtain ⟨q, hq, e⟩ := List.mem_map.mp hm
      clear hm
      revert q
      exact fa_cons (od _ (List.mem_of_getElem? (i := 1) rfl)) (fa_cons q1 (fa_cons (od _ (List.mem_of_getElem? (i := 3) rfl)) fun q hq => od q (by walk_at "m_mem")))
  · intro i ys v I oI C oC D m₂ h7 tk7 E' hi hJ hP hC hx F7 N7 off ne
    obtain ⟨yv, hyv⟩ := hP
    obtain ⟨r, hr⟩ : ∃ r, ns[i]? = some r := ⟨_, List.getElem?_eq_getElem hi⟩
    obtain rfl : Value.ref r.inf = v := by
      unfold kvsOf at hyv
      rw [List.getElem?_map, hr] at hyv
      exact congrArg (·.2) (Option.some.inj hyv)
    have hsub := ent_sub hr
    have hrs : ∀ q ∈ restS ns [i], q ∈ chunk ns := fun q hq => rest_sub q hq
    have N8 := news_of N7 (b := (I, oI) :: (C, oC) :: (D, LCg.lst ys) :: (_, _) :: (x, instObj 172 dx) :: (dx, sDict w t0 t1 t2 t3 d .none pv fv) :: (d, o) :: (r.inf, nObj r.dx r.y r.ty (.int r.np r.tnp) r.sl) :: (r.dx, dictOf [] 0) :: (r.sl, W.listOf r.sv.toArray r.e) :: (restS ns [i] ++ frs)) (by
      refine fa_cons ?_ (fa_cons ?_ (fa_cons ?_ (fa_cons (.tail _ (.tail _ (.tail _ (.head _)))) (fa_cons ?_ (fa_cons ?_ (fa_cons ?_ (fa_cons (.tail _ (.tail _ (.tail _ (.tail _ (.tail _ (.tail _ (.tail _ (List.mem_append_left _ (hsub _ (.head _)))))))))) (fa_cons (.tail _ (.tail _ (.tail _ (.tail _ (.tail _ (.tail _ (.tail _ (List.mem_append_left _ (hsub _ (.tail _ (.head _))))))))))) (fa_cons (.tail _ (.tail _ (.tail _ (.tail _ (.tail _ (.tail _ (.tail _ (List.mem_append_left _ (hsub _ (.tail _ (.tail _ (.head _)))))))))))) (fa_app (fun q hq => .tail _ (.tail _ (.tail _ (.tail _ (.tail _ (.tail _ (.tail _ (List.mem_append_left _ (hrs q hq))))))))) (fun q hq => .tail _ (.tail _ (.tail _ (.tail _ (.tail _ (.tail _ (.tail _ (List.mem_append_right _ hq))))))))))))))))))
      all_goals walk_at "m_mem")
    clear N7
    k_steps
    · unfold Stop
      rename Fr _ _ _ _ => F9
      rename News _ _ _ _ => N9
      refine LCg.CompEnd.intro F9 N9 _ (subC hr) off (.tail _ (.tail _ (.tail _ (.head _)))) ⟨rfl, ?_⟩
      rw [startI_succ hr, if_pos (by assumption)]
      exact hJ.snoc r.ty hr
    · unfold Stop
      rename Fr _ _ _ _ => F9
      rename News _ _ _ _ => N9
      refine LCg.CompEnd.intro F9 N9 _ (subC hr) off (.tail _ (.tail _ (.tail _ (.head _)))) ⟨rfl, ?_⟩
      rw [startI_succ hr, if_neg (by assumption)]
      exact hJ
end

section
set_option autoImplicit false
/-- what a step of the walk makes at w, for a weight s -/
def adjR (ts : List (Nat × Nat)) (s : Nat → Rat) (w : Nat) : Rat := (ts.map fun p => (if w = p.1 then s p.2 else 0) + (if w = p.2 then s p.1 else 0)).sum
inductive TieL (v : Nat) : List Nat → List (Nat × Nat) → Prop
  | nil : TieL v [v] []
  | snoc {ins ts} (lo up : Nat) : TieL v ins ts → up ∈ ins → lo ∉ ins → TieL v (ins ++ [lo]) (ts ++ [(lo, up)])
theorem sumR_app (a b : List Rat) : (a ++ b).sum = a.sum + b.sum := by
  induction a with
  | nil => show b.sum = 0 + b.sum; grind
  | cons x a ih => rw [List.cons_append, List.sum_cons, List.sum_cons, ih]; grind
theorem adjR_snoc (ts : List (Nat × Nat)) (lo up : Nat) (s : Nat → Rat) (w : Nat) : adjR (ts ++ [(lo, up)]) s w = adjR ts s w + ((if w = lo then s up else 0) + (if w = up then s lo else 0)) := by
  unfold adjR
  rw [List.map_append, sumR_app]
  simp only [List.map_cons, List.map_nil, List.sum_cons, List.sum_nil]
  grind
theorem TieL.nd {v : Nat} {ins : List Nat} {ts : List (Nat × Nat)} (h : TieL v ins ts) : ins.Nodup := by
  induction h with
  | nil => simp
  | snoc lo up h h1 h2 ih => exact List.nodup_append.mpr ⟨ih, by simp, fun a ha b hb e => by rw [List.mem_singleton.mp hb] at e; exact h2 (e ▸ ha)⟩
theorem TieL.root {v : Nat} {ins : List Nat} {ts : List (Nat × Nat)} (h : TieL v ins ts) : v ∈ ins := by
  induction h with
  | nil => simp
  | snoc lo up h h1 h2 ih => exact List.mem_append_left _ ih
theorem TieL.mem {v : Nat} {ins : List Nat} {ts : List (Nat × Nat)} (h : TieL v ins ts) : ∀ p ∈ ts, p.1 ∈ ins ∧ p.2 ∈ ins := by
  induction h with
  | nil => intro p hp; cases hp
  | snoc lo up h h1 h2 ih =>
    intro p hp
    rcases List.mem_append.mp hp with hp | hp
    · exact ⟨List.mem_append_left _ (ih p hp).1, List.mem_append_left _ (ih p hp).2⟩
    · rw [List.mem_singleton.mp hp]; exact ⟨by simp, List.mem_append_left _ h1⟩
theorem adjR_out {v : Nat} {ins : List Nat} {ts : List (Nat × Nat)} (h : TieL v ins ts) (s : Nat → Rat) {w : Nat} (hw : w ∉ ins) : adjR ts s w = 0 := by
  induction h with
  | nil => rfl
  | snoc lo up h h1 h2 ih =>
    rw [List.mem_append, not_or, List.mem_singleton] at hw
    rw [adjR_snoc, ih hw.1, if_neg hw.2, if_neg (show ¬ w = up from fun e => hw.1 (e ▸ h1))]; grind
def totR (ins : List Nat) (s : Nat → Rat) : Rat := (ins.map s).sum
theorem totR_cons (x : Nat) (ins : List Nat) (s : Nat → Rat) : totR (x :: ins) s = s x + totR ins s := by simp [totR]
theorem totR_snoc (ins : List Nat) (x : Nat) (s : Nat → Rat) : totR (ins ++ [x]) s = totR ins s + s x := by
  unfold totR; rw [List.map_append, sumR_app]; simp only [List.map_cons, List.map_nil, List.sum_cons, List.sum_nil]; grind
theorem totR_nonneg (ins : List Nat) (s : Nat → Rat) (hs : ∀ w, 0 ≤ s w) : 0 ≤ totR ins s := by
  induction ins with
  | nil => exact Rat.le_refl
  | cons a l ih => rw [totR_cons]; have := hs a; grind
theorem mem_le_tot {ins : List Nat} {s : Nat → Rat} (hs : ∀ w, 0 ≤ s w) {x : Nat} (hx : x ∈ ins) : s x ≤ totR ins s := by
  induction ins with
  | nil => cases hx
  | cons a l ih =>
    rw [totR_cons]
    rcases List.mem_cons.mp hx with e | hx
    · rw [e]; have := totR_nonneg l s hs; grind
    · have h1 := ih hx; have := hs a; grind
/-- a step gives to one no more than all that is there -/
theorem adjR_le_tot {v : Nat} {ins : List Nat} {ts : List (Nat × Nat)} (h : TieL v ins ts) {s : Nat → Rat} (hs : ∀ w, 0 ≤ s w) (w : Nat) : adjR ts s w ≤ totR ins s := by
  induction h with
  | nil => exact totR_nonneg _ s hs
  | snoc lo up h h1 h2 ih =>
    rw [adjR_snoc, totR_snoc]
    by_cases hw : w = lo
    · subst hw
      rw [adjR_out h s h2, if_pos rfl, if_neg (show ¬ w = up from fun e => h2 (e ▸ h1))]
      have := mem_le_tot hs h1; have := hs w; grind
    · rw [if_neg hw]
      have := hs lo
      split <;> grind
theorem adjR_nonneg (ts : List (Nat × Nat)) {s : Nat → Rat} (hs : ∀ w, 0 ≤ s w) (w : Nat) : 0 ≤ adjR ts s w := by
  unfold adjR
  induction ts with
  | nil => exact Rat.le_refl
  | cons p l ih =>
    rw [List.map_cons, List.sum_cons]
    have := hs p.1; have := hs p.2
    split <;> split <;> grind
/-- one place of f is changed by d -/
theorem totR_at {l : List Nat} (nd : l.Nodup) {up : Nat} {f g : Nat → Rat} {d : Rat} (hf : ∀ w, g w = f w + if w = up then d else 0) : totR l g = totR l f + if up ∈ l then d else 0 := by
  induction l with
  | nil => simp only [List.not_mem_nil, if_false]; show (0 : Rat) = 0 + 0; grind
  | cons a l ih =>
    rw [List.nodup_cons] at nd
    rw [totR_cons, totR_cons, ih nd.2, hf a]
    by_cases hu : a = up
    · subst hu; rw [if_pos rfl, if_neg nd.1, if_pos List.mem_cons_self]; grind
    · rw [if_neg hu]
      by_cases hm : up ∈ l
      · rw [if_pos hm, if_pos (List.mem_cons_of_mem _ hm)]; grind
      · rw [if_neg hm, if_neg (by rw [List.mem_cons, not_or]; exact ⟨Ne.symm hu, hm⟩)]; grind
theorem totR_congr {l : List Nat} {f g : Nat → Rat} (h : ∀ w ∈ l, f w = g w) : totR l f = totR l g := by
  unfold totR; rw [List.map_congr_left h]
/-- all that a step gives -/
theorem tot_adj {v : Nat} {ins : List Nat} {ts : List (Nat × Nat)} (h : TieL v ins ts) (s : Nat → Rat) : totR ins (adjR ts s) = (ts.map fun p => s p.1 + s p.2).sum := by
  induction h with
  | nil => show totR [v] (fun _ => 0) = 0; simp only [totR, List.map_cons, List.map_nil, List.sum_cons, List.sum_nil]; grind
  | @snoc ins ts lo up h h1 h2 ih =>
    rw [totR_snoc, List.map_append, sumR_app, adjR_snoc, adjR_out h s h2, if_pos rfl, if_neg (show ¬ lo = up from fun e => h2 (e ▸ h1))]
    rw [totR_congr (g := fun w => adjR ts s w + if w = up then s lo else 0) (fun w hw => by
      rw [adjR_snoc, if_neg (show ¬ w = lo from fun e => h2 (e ▸ hw))]; grind)]
    rw [totR_at h.nd (f := adjR ts s) (d := s lo) (fun w => rfl), if_pos h1, ih]
    simp only [List.map_cons, List.map_nil, List.sum_cons, List.sum_nil]
    grind
theorem adjR_congr {ts : List (Nat × Nat)} {s s' : Nat → Rat} {w : Nat} (h : ∀ p ∈ ts, (w = p.1 → s p.2 = s' p.2) ∧ (w = p.2 → s p.1 = s' p.1)) : adjR ts s w = adjR ts s' w := by
  unfold adjR
  congr 1
  refine List.map_congr_left fun p hp => ?_
  have := h p hp
  by_cases h1 : w = p.1
  · by_cases h2 : w = p.2
    · rw [if_pos h1, if_pos h1, if_pos h2, if_pos h2, this.1 h1, this.2 h2]
    · rw [if_pos h1, if_pos h1, if_neg h2, if_neg h2, this.1 h1]
  · by_cases h2 : w = p.2
    · rw [if_neg h1, if_neg h1, if_pos h2, if_pos h2, this.2 h2]
    · rw [if_neg h1, if_neg h1, if_neg h2, if_neg h2]
theorem adjR_lin (ts : List (Nat × Nat)) (c : Rat) (f g : Nat → Rat) (w : Nat) : adjR ts (fun x => c * f x + g x) w = c * adjR ts f w + adjR ts g w := by
  unfold adjR
  induction ts with
  | nil => show (0 : Rat) = c * 0 + 0; grind
  | cons p l ih =>
    simp only [List.map_cons, List.sum_cons] at ih ⊢
    rw [ih]
    split <;> split <;> grind
theorem adjR_zero (ts : List (Nat × Nat)) (w : Nat) : adjR ts (fun _ => 0) w = 0 := by
  unfold adjR
  induction ts with
  | nil => rfl
  | cons p l ih => rw [List.map_cons, List.sum_cons, ih]; split <;> split <;> grind
theorem adjR_scale (ts : List (Nat × Nat)) (c : Rat) (f : Nat → Rat) (w : Nat) : adjR ts (fun x => c * f x) w = c * adjR ts f w := by
  have h := adjR_lin ts c f (fun _ => 0) w
  rw [adjR_zero] at h
  have e : (fun x => c * f x + 0) = fun x => c * f x := by funext x; grind
  rw [e] at h; grind
/-- the walk's weights after n steps -/
def uW (v : Nat) (ts : List (Nat × Nat)) : Nat → Nat → Rat
  | 0 => fun w => if w = v then 1 else 0
  | n + 1 => fun w => adjR ts (uW v ts n) w
theorem uW_nonneg (v : Nat) (ts : List (Nat × Nat)) : ∀ n w, 0 ≤ uW v ts n w
  | 0, w => by show 0 ≤ if w = v then (1 : Rat) else 0; split <;> grind
  | n + 1, w => adjR_nonneg ts (uW_nonneg v ts n) w
def ParOk (v : Nat) (ts : List (Nat × Nat)) (par : Nat → Bool) : Prop := par v = false ∧ ∀ p ∈ ts, par p.1 = !par p.2
theorem uW_par {v : Nat} {ts : List (Nat × Nat)} {par : Nat → Bool} (hp : ParOk v ts par) : ∀ n w, par w ≠ decide (n % 2 = 1) → uW v ts n w = 0
  | 0, w, h => by
    show (if w = v then (1 : Rat) else 0) = 0
    rw [if_neg]; intro e; rw [e, hp.1] at h; exact h rfl
  | n + 1, w, h => by
    show adjR ts (uW v ts n) w = 0
    rw [adjR_congr (s' := fun _ => 0), adjR_zero]
    intro p hm
    have h2 := hp.2 p hm
    refine ⟨fun e => uW_par hp n _ ?_, fun e => uW_par hp n _ ?_⟩
    · rw [e, h2] at h
      intro e2; rw [e2] at h; apply h
      rcases Nat.mod_two_eq_zero_or_one n with h3 | h3 <;> simp [Nat.add_mod, h3]
    · rw [e] at h
      intro e2; rw [e2] at h2; apply h
      have h4 : par p.2 = !decide (n % 2 = 1) := by rw [h2]; simp
      rw [h4]
      rcases Nat.mod_two_eq_zero_or_one n with h3 | h3 <;> simp [Nat.add_mod, h3]
theorem sum_bound {ts : List (Nat × Nat)} {f : Nat × Nat → Rat} {M : Rat} (h : ∀ p ∈ ts, f p ≤ M) : (ts.map f).sum ≤ ts.length * M := by
  induction ts with
  | nil => show (0 : Rat) ≤ ((0 : Nat) : Rat) * M; grind
  | cons p l ih =>
    rw [List.map_cons, List.sum_cons, List.length_cons]
    have h1 := h p List.mem_cons_self
    have h2 := ih fun q hq => h q (List.mem_cons_of_mem _ hq)
    have e : ((l.length + 1 : Nat) : Rat) = (l.length : Rat) + 1 := by exact Rat.natCast_add ..
    rw [e]; grind
theorem uW_bound {v : Nat} {ins : List Nat} {ts : List (Nat × Nat)} {par : Nat → Bool} (hT : TieL v ins ts) (hp : ParOk v ts par) (hl : ts.length ≤ 6) : ∀ k : Nat, (∀ w, uW v ts (2 * k) w ≤ 6 ^ k) ∧ totR ins (uW v ts (2 * k + 1)) ≤ 6 * 6 ^ k := by
  have step : ∀ k : Nat, (∀ w, uW v ts (2 * k) w ≤ 6 ^ k) → totR ins (uW v ts (2 * k + 1)) ≤ 6 * 6 ^ k := by
    intro k hk
    show totR ins (adjR ts (uW v ts (2 * k))) ≤ _
    rw [tot_adj hT]
    have h0 : (0 : Rat) ≤ 6 ^ k := Rat.le_trans (uW_nonneg v ts (2 * k) v) (hk v)
    have h1 := sum_bound (ts := ts) (f := fun p => uW v ts (2 * k) p.1 + uW v ts (2 * k) p.2) (M := 6 ^ k) (fun p hm => by
      have h2 := hp.2 p hm
      by_cases h3 : par p.1 = decide ((2 * k) % 2 = 1)
      · have h4 : uW v ts (2 * k) p.2 = 0 := uW_par hp _ _ (by rw [← h3, h2]; simp)
        have := hk p.1
        show uW v ts (2 * k) p.1 + uW v ts (2 * k) p.2 ≤ _
        rw [h4]; grind
      · have h4 : uW v ts (2 * k) p.1 = 0 := uW_par hp _ _ h3
        have := hk p.2
        show uW v ts (2 * k) p.1 + uW v ts (2 * k) p.2 ≤ _
        rw [h4]; grind)
    have h5 : (ts.length : Rat) ≤ 6 := by
      have : ((ts.length : Nat) : Rat) ≤ ((6 : Nat) : Rat) := Rat.natCast_le_natCast.mpr hl
      exact this
    have h6 : (ts.length : Rat) * 6 ^ k ≤ 6 * 6 ^ k := Rat.mul_le_mul_of_nonneg_right h5 h0
    exact Rat.le_trans h1 h6
  intro k
  induction k with
  | zero =>
    have h0 : ∀ w, uW v ts (2 * 0) w ≤ 6 ^ 0 := by
      intro w
      show (if w = v then (1 : Rat) else 0) ≤ 6 ^ 0
      have e : (6 : Rat) ^ 0 = 1 := Rat.pow_zero _
      rw [e]; split <;> grind
    exact ⟨h0, step 0 h0⟩
  | succ k ih =>
    have h1 : ∀ w, uW v ts (2 * (k + 1)) w ≤ 6 ^ (k + 1) := by
      intro w
      have h2 : uW v ts (2 * (k + 1)) w ≤ totR ins (uW v ts (2 * k + 1)) := adjR_le_tot hT (uW_nonneg v ts _) w
      have e : (6 : Rat) ^ (k + 1) = 6 * 6 ^ k := by rw [Rat.pow_succ, Rat.mul_comm]
      rw [e]; exact Rat.le_trans h2 ih.2
    exact ⟨h1, step _ h1⟩
/-- the even and the odd steps, read in base p -/
def evP (v : Nat) (ts : List (Nat × Nat)) (P : Rat) : Nat → Nat → Rat
  | 0 => uW v ts 0
  | k + 1 => fun w => P * evP v ts P k w + uW v ts (2 * k + 2) w
def odP (v : Nat) (ts : List (Nat × Nat)) (P : Rat) : Nat → Nat → Rat
  | 0 => uW v ts 1
  | k + 1 => fun w => P * odP v ts P k w + uW v ts (2 * k + 3) w
theorem adj_ev (v : Nat) (ts : List (Nat × Nat)) (P : Rat) (w : Nat) : ∀ k, adjR ts (evP v ts P k) w = odP v ts P k w
  | 0 => rfl
  | k + 1 => by
    show adjR ts (fun x => P * evP v ts P k x + uW v ts (2 * k + 2) x) w = P * odP v ts P k w + uW v ts (2 * k + 3) w
    rw [adjR_lin, adj_ev v ts P w k]; rfl
theorem adj_od (v : Nat) (ts : List (Nat × Nat)) (P : Rat) (w : Nat) : ∀ k, evP v ts P (k + 1) w = P ^ (k + 1) * uW v ts 0 w + adjR ts (odP v ts P k) w
  | 0 => by
    show P * uW v ts 0 w + adjR ts (uW v ts 1) w = P ^ 1 * uW v ts 0 w + adjR ts (uW v ts 1) w
    rw [Rat.pow_succ, Rat.pow_zero]; grind
  | k + 1 => by
    show P * evP v ts P (k + 1) w + uW v ts (2 * k + 4) w = P ^ (k + 2) * uW v ts 0 w + adjR ts (fun x => P * odP v ts P k x + uW v ts (2 * k + 3) x) w
    rw [adjR_lin, adj_od v ts P w k, Rat.pow_succ P (k + 1)]
    have : uW v ts (2 * k + 4) w = adjR ts (uW v ts (2 * k + 3)) w := rfl
    grind
/-- the weights of the folders that hang on w -/
def kidW (ts : List (Nat × Nat)) (W : Nat → Rat) (w : Nat) : Rat := (ts.map fun p => if w = p.2 then W p.1 else 0).sum
theorem kidW_snoc (ts : List (Nat × Nat)) (lo up : Nat) (W : Nat → Rat) (w : Nat) : kidW (ts ++ [(lo, up)]) W w = kidW ts W w + if w = up then W lo else 0 := by
  unfold kidW
  rw [List.map_append, sumR_app]
  simp only [List.map_cons, List.map_nil, List.sum_cons, List.sum_nil]
  grind
theorem kidW_out {v : Nat} {ins : List Nat} {ts : List (Nat × Nat)} (h : TieL v ins ts) (W : Nat → Rat) {w : Nat} (hw : w ∉ ins) : kidW ts W w = 0 := by
  induction h with
  | nil => rfl
  | snoc lo up h h1 h2 ih =>
    rw [List.mem_append, not_or, List.mem_singleton] at hw
    rw [kidW_snoc, ih hw.1, if_neg (show ¬ w = up from fun e => hw.1 (e ▸ h1))]; grind
theorem elim {v : Nat} {P q : Rat} (hq : P * q = 1) (q0 : 0 ≤ q) {W Z a b g : Nat → Rat} (ha : ∀ w, 0 ≤ a w) : ∀ {ins : List Nat} {ts : List (Nat × Nat)}, TieL v ins ts → ∀ (K ρ : Nat → Rat), (∀ p ∈ ts, a p.1 * a p.2 = P) → (∀ w ∈ ins, 0 ≤ ρ w) →
    (∀ w ∈ ins, W w * (P - (K w + kidW ts W w)) = P) → (∀ w ∈ ins, 0 ≤ W w) → (∀ w ∈ ins, w ≠ v → b w = 0) → (∀ p ∈ ts, g p.2 * (a p.2 * (q * W p.1)) ≤ g p.1) →
    (∀ w ∈ ins, (P - K w) * Z w = P * b w + a w * adjR ts Z w - ρ w) → ∃ r, 0 ≤ r ∧ g v * r ≤ totR ins (fun w => g w * ρ w) ∧ P * Z v = W v * (P * b v - r) := by
  intro ins ts h
  induction h with
  | nil =>
    intro K ρ _ h0 hW _ _ _ he
    refine ⟨ρ v, h0 v (by simp), ?_, ?_⟩
    · simp only [totR, List.map_cons, List.map_nil, List.sum_cons, List.sum_nil]; grind
    · have h1 := hW v (by simp)
      have h2 := he v (by simp)
      have h3 : adjR [] Z v = 0 := rfl
      have h4 : kidW [] W v = 0 := rfl
      rw [h3] at h2; rw [h4] at h1
      grind
  | @snoc ins ts lo up h h1 h2 ih =>
    intro K ρ hpar h0 hW hW0 hb hg he
    have hlo : lo ∈ ins ++ [lo] := by simp
    have hup : up ∈ ins ++ [lo] := List.mem_append_left _ h1
    have hne : ¬ lo = up := fun e => h2 (e ▸ h1)
    have hlv : lo ≠ v := fun e => h2 (e ▸ h.root)
    have htie : (lo, up) ∈ ts ++ [(lo, up)] := by simp
    have e1 := he lo hlo
    rw [hb lo hlo hlv, adjR_snoc, adjR_out h Z h2, if_pos rfl, if_neg hne] at e1
    have w1 := hW lo hlo
    rw [kidW_snoc, kidW_out h W h2, if_neg hne] at w1
    have hpa := hpar (lo, up) htie
    dsimp only at hpa
    have zlo : P * Z lo = W lo * a lo * Z up - W lo * ρ lo := by grind
    have zq : Z lo = q * (W lo * a lo * Z up - W lo * ρ lo) := by grind
    obtain ⟨r, r0, r1, r2⟩ := ih (fun w => if w = up then K w + W lo else K w) (fun w => if w = up then ρ w + a up * (q * W lo) * ρ lo else ρ w) (fun p hp => hpar p (List.mem_append_left _ hp)) (fun w hw => by
        have i1 := h0 w (List.mem_append_left _ hw)
        split
        · have i2 := h0 lo hlo
          have i3 := Rat.mul_nonneg (Rat.mul_nonneg (ha up) (Rat.mul_nonneg q0 (hW0 lo hlo))) i2
          grind
        · exact i1) (fun w hw => by
        have i1 := hW w (List.mem_append_left _ hw)
        rw [kidW_snoc] at i1
        split
        · rename_i e; subst e; rw [if_pos rfl] at i1; grind
        · rename_i e; rw [if_neg e] at i1; grind) (fun w hw => hW0 w (List.mem_append_left _ hw)) (fun w hw => hb w (List.mem_append_left _ hw)) (fun p hp => hg p (List.mem_append_left _ hp)) (fun w hw => by
        have i1 := he w (List.mem_append_left _ hw)
        have hwl : ¬ w = lo := fun e => h2 (e ▸ hw)
        rw [adjR_snoc, if_neg hwl] at i1
        split
        · rename_i e; subst e; rw [if_pos rfl] at i1
          have i2 : a w * Z lo = W lo * Z w - a w * (q * W lo) * ρ lo := by
            rw [zq]
            have : a w * (q * (W lo * a lo * Z w - W lo * ρ lo)) = (a lo * a w) * q * W lo * Z w - a w * (q * W lo) * ρ lo := by grind
            rw [this, hpa, hq]; grind
          grind
        · rename_i e; rw [if_neg e] at i1; grind)
    refine ⟨r, r0, ?_, r2⟩
    refine Rat.le_trans r1 ?_
    rw [totR_snoc, totR_at h.nd (up := up) (f := fun w => g w * ρ w) (d := g up * (a up * (q * W lo) * ρ lo)) (fun w => by split <;> grind), if_pos h1]
    have j1 := hg (lo, up) htie
    dsimp only at j1
    have j2 := Rat.mul_le_mul_of_nonneg_right j1 (h0 lo hlo)
    grind
theorem tree_main {v : Nat} {ins : List Nat} {ts : List (Nat × Nat)} {par : Nat → Bool} {P : Rat} {W : Nat → Rat} (hT : TieL v ins ts) (hp : ParOk v ts par) (hl : ts.length ≤ 6) (hP : 4294967296 ≤ P)
    (hW : ∀ w ∈ ins, W w * (P - kidW ts W w) = P) (hW1 : ∀ w ∈ ins, 0 ≤ W w ∧ W w ≤ 2) : evP v ts P 8 v ≤ W v * P ^ 8 ∧ W v * P ^ 8 < evP v ts P 8 v + 1 := by
  have hP0 : P ≠ 0 := by intro e; rw [e] at hP; grind
  have hq : P * P⁻¹ = 1 := Rat.mul_inv_cancel P hP0
  have q0 : 0 ≤ P⁻¹ := by
    have h1 : (0 : Rat) < P⁻¹ := Rat.inv_pos.mpr (by grind)
    grind
  have hu := uW_nonneg v ts
  obtain ⟨r, r0, r1, r2⟩ := elim (v := v) (P := P) (q := P⁻¹) hq q0 (W := W) (Z := fun w => if par w = true then P * odP v ts P 7 w else evP v ts P 8 w) (a := fun w => if par w = true then P else 1) (b := fun w => P ^ 8 * uW v ts 0 w) (g := fun w => if par w = true then 2 else P)
    (fun w => by split <;> grind) hT (fun _ => 0) (fun w => if par w = true then P * uW v ts 17 w else 0)
    (fun p hm => by
      have h2 := hp.2 p hm
      rw [h2]
      cases par p.2 <;> simp <;> grind)
    (fun w _ => by
      split
      · exact Rat.mul_nonneg (by grind) (hu 17 w)
      · exact Rat.le_refl)
    (fun w hw => by have := hW w hw; grind) (fun w hw => (hW1 w hw).1)
    (fun w _ hne => by
      show P ^ 8 * (if w = v then (1 : Rat) else 0) = 0
      rw [if_neg hne]; grind)
    (fun p hm => by
      have h2 := hp.2 p hm
      have h3 := hW1 p.1 (hT.mem p hm).1
      rw [h2]
      cases par p.2
      · simp
        have e : P * (P⁻¹ * W p.1) = W p.1 := by grind
        rw [e]; exact h3.2
      · simp
        have e : 2 * (P * (P⁻¹ * W p.1)) = 2 * W p.1 := by grind
        rw [e]; grind)
    (fun w hw => by
      cases hpw : par w
      · simp only [Bool.false_eq_true, if_false]
        have h1 := adj_od v ts P w 7
        have h2 : adjR ts (fun x => if par x = true then P * odP v ts P 7 x else evP v ts P 8 x) w = adjR ts (fun x => P * odP v ts P 7 x) w := adjR_congr fun p hm => by
          have h3 := hp.2 p hm
          refine ⟨fun e => ?_, fun e => ?_⟩
          · rw [e] at hpw; rw [hpw] at h3
            rw [if_pos (by cases h4 : par p.2 <;> simp [h4] at h3 ⊢)]
          · rw [e] at hpw; rw [hpw] at h3
            rw [if_pos (by simpa using h3)]
        rw [h2, adjR_scale, h1]
        grind
      · simp only [if_true]
        have h1 := adj_ev v ts P w 8
        have h2 : adjR ts (fun x => if par x = true then P * odP v ts P 7 x else evP v ts P 8 x) w = adjR ts (evP v ts P 8) w := adjR_congr fun p hm => by
          have h3 := hp.2 p hm
          refine ⟨fun e => ?_, fun e => ?_⟩
          · rw [e] at hpw; rw [hpw] at h3
            rw [if_neg (by cases h4 : par p.2 <;> simp [h4] at h3 ⊢)]
          · rw [e] at hpw; rw [hpw] at h3
            rw [if_neg (by simpa using h3)]
        have h4 : uW v ts 0 w = 0 := uW_par hp 0 w (by rw [hpw]; simp)
        have h5 : odP v ts P 8 w = P * odP v ts P 7 w + uW v ts 17 w := rfl
        rw [h2, h1, h4, h5]
        grind)
  simp only [hp.1, Bool.false_eq_true, if_false] at r1 r2
  have hv1 : uW v ts 0 v = 1 := by show (if v = v then (1 : Rat) else 0) = 1; rw [if_pos rfl]
  rw [hv1] at r2
  have t17 := (uW_bound hT hp hl 8).2
  have tot : totR ins (fun w => (if par w = true then 2 else P) * if par w = true then P * uW v ts 17 w else 0) ≤ P * (2 * totR ins (uW v ts 17)) := by
    have key : ∀ l : List Nat, totR l (fun w => (if par w = true then 2 else P) * if par w = true then P * uW v ts 17 w else 0) ≤ P * (2 * totR l (uW v ts 17)) := by
      intro l
      induction l with
      | nil => show (0 : Rat) ≤ P * (2 * 0); grind
      | cons x l ih =>
        rw [totR_cons, totR_cons]
        have h1 := Rat.mul_nonneg (show (0 : Rat) ≤ P by grind) (hu 17 x)
        cases par x
        · simp only [Bool.false_eq_true, if_false]; grind
        · simp only [if_true]; grind
    exact key ins
  have h6 : (6 : Rat) * 6 ^ 8 = 10077696 := by decide +kernel
  rw [h6] at t17
  have h7 : P * r ≤ P * 20155392 := by
    refine Rat.le_trans r1 (Rat.le_trans tot ?_)
    exact Rat.mul_le_mul_of_nonneg_left (by
      have : totR ins (uW v ts (2 * 8 + 1)) = totR ins (uW v ts 17) := rfl
      grind) (by grind)
  have h8 : r ≤ 20155392 := by
    have h9 := Rat.mul_le_mul_of_nonneg_left h7 q0
    have ea : P⁻¹ * (P * r) = r := by grind
    have eb : P⁻¹ * (P * 20155392) = 20155392 := by grind
    rw [ea, eb] at h9
    exact h9
  have hWv := hW1 v hT.root
  have e1 : evP v ts P 8 v = W v * P ^ 8 - P⁻¹ * (W v * r) := by grind
  have e2 : 0 ≤ P⁻¹ * (W v * r) := Rat.mul_nonneg q0 (Rat.mul_nonneg hWv.1 r0)
  have e3 : W v * r ≤ 2 * 20155392 := by
    have h9 := Rat.mul_le_mul_of_nonneg_right hWv.2 r0
    grind
  have e4 : P⁻¹ * (W v * r) < 1 := by
    have h9 := Rat.mul_le_mul_of_nonneg_left e3 q0
    have h10 := Rat.mul_le_mul_of_nonneg_left hP q0
    have ea : P⁻¹ * P = 1 := by grind
    rw [ea] at h10
    grind
  rw [e1]
  constructor <;> grind
end

section
open PySem PySem.W PyProof.Rows PySem.Calls
set_option autoImplicit false
theorem ties_tieL {t : List Nat} (ht : TreeOk t) {v : Nat} : ∀ k, k ≤ t.length → TieL v (tiesT t v k).1 (tiesT t v k).2 ∧ ∀ x ∈ (tiesT t v k).1, v ≤ x ∧ (x = v ∨ x ≤ k) := by
  intro k
  induction k with
  | zero => intro _; exact ⟨.nil, fun x hx => by rw [List.mem_singleton.mp hx]; exact ⟨Nat.le_refl _, .inl rfl⟩⟩
  | succ k ih =>
    intro hk
    obtain ⟨h1, h2⟩ := ih (by omega)
    rw [tiesT_succ]
    unfold tieStep
    split
    · rename_i hc
      have hm : t.getD k 0 ∈ (tiesT t v k).1 := by simpa using hc
      have hle : t.getD k 0 ≤ k := by
        have : t[k]? = some (t.getD k 0) := by rw [List.getD_eq_getElem?_getD, List.getElem?_eq_getElem (by omega)]; rfl
        exact ht k _ this
      refine ⟨.snoc (k + 1) (t.getD k 0) h1 hm fun hin => ?_, fun x hx => ?_⟩
      · have a1 := h2 _ hin
        have a2 := h2 _ hm
        omega
      · rcases List.mem_append.mp hx with hx | hx
        · have := h2 x hx; omega
        · have a2 := h2 _ hm
          rw [List.mem_singleton.mp hx]; omega
    · exact ⟨h1, fun x hx => by have := h2 x hx; omega⟩
theorem getD_set {g : List Int} {i w : Nat} {x : Int} (hi : i < g.length) : (g.set i x).getD w 0 = if w = i then x else g.getD w 0 := by
  rw [List.getD_eq_getElem?_getD, List.getD_eq_getElem?_getD, List.getElem?_set]
  by_cases h : i = w
  · subst h; rw [if_pos rfl, if_pos rfl, if_pos hi]; rfl
  · rw [if_neg h, if_neg (Ne.symm h)]
theorem goneStep_get {sz g : List Int} {p : Nat × Nat} (h1 : p.1 < g.length) (h2 : p.2 < g.length) (hne : p.1 ≠ p.2) (w : Nat) :
    (goneStep sz g p).getD w 0 = g.getD w 0 + ((if w = p.1 then sz.getD p.2 0 else 0) + (if w = p.2 then sz.getD p.1 0 else 0)) := by
  unfold goneStep
  rw [getD_set (by rw [List.length_set]; exact h2), getD_set h1, getD_set h1]
  by_cases a : w = p.2
  · have b : ¬ w = p.1 := fun e => hne (e.symm.trans a)
    rw [if_pos a, if_neg (Ne.symm hne), if_neg b, if_pos a, a]; omega
  · rw [if_neg a, if_neg a]
    by_cases b : w = p.1
    · rw [if_pos b, if_pos b, b]; omega
    · rw [if_neg b, if_neg b]; omega
theorem goneStep_len (sz g : List Int) (p : Nat × Nat) : (goneStep sz g p).length = g.length := by unfold goneStep; rw [List.length_set, List.length_set]
theorem goneFold {sz : List Int} {n : Nat} (w : Nat) : ∀ (ts : List (Nat × Nat)) (g : List Int), g.length = n → (∀ p ∈ ts, p.1 < n ∧ p.2 < n ∧ p.1 ≠ p.2) →
    (((ts.foldl (goneStep sz) g).getD w 0 : Int) : Rat) = ((g.getD w 0 : Int) : Rat) + adjR ts (fun x => ((sz.getD x 0 : Int) : Rat)) w
  | [], g, _, _ => by show _ = _ + (0 : Rat); show ((g.getD w 0 : Int) : Rat) = _; grind
  | p :: ts, g, hg, h => by
    have hp := h p List.mem_cons_self
    rw [List.foldl_cons, goneFold w ts _ (by rw [goneStep_len]; exact hg) fun q hq => h q (List.mem_cons_of_mem _ hq), goneStep_get (by rw [hg]; exact hp.1) (by rw [hg]; exact hp.2.1) hp.2.2]
    unfold adjR
    rw [List.map_cons, List.sum_cons, Rat.intCast_add, Rat.intCast_add]
    split <;> split <;> simp <;> grind
theorem ties_ok {t : List Nat} (ht : TreeOk t) {v : Nat} (hv : v ≤ t.length) : ∀ p ∈ (tiesT t v t.length).2, p.1 < t.length + 1 ∧ p.2 < t.length + 1 ∧ p.1 ≠ p.2 := by
  obtain ⟨h1, h2⟩ := ties_tieL ht (v := v) t.length (Nat.le_refl _)
  have key : ∀ {ins ts}, TieL v ins ts → ∀ p ∈ ts, p.1 ≠ p.2 := by
    intro ins ts h
    induction h with
    | nil => intro p hp; cases hp
    | snoc lo up h a b ih =>
      intro p hp
      rcases List.mem_append.mp hp with hp | hp
      · exact ih p hp
      · rw [List.mem_singleton.mp hp]; exact fun e => b (by have e' : lo = up := e; rw [e']; exact a)
  intro p hp
  have m := h1.mem p hp
  have a := h2 _ m.1
  have b := h2 _ m.2
  exact ⟨by omega, by omega, key h1 p hp⟩
theorem goneT_len (ts : List (Nat × Nat)) (sz : List Int) : (goneT ts sz).length = sz.length := by
  unfold goneT
  have : ∀ (ts : List (Nat × Nat)) (g : List Int), (ts.foldl (goneStep sz) g).length = g.length := by
    intro ts
    induction ts with
    | nil => intro g; rfl
    | cons p ts ih => intro g; rw [List.foldl_cons, ih, goneStep_len]
  rw [this, List.length_replicate]
theorem stand_len (ts : List (Nat × Nat)) (sz : List Int) : ∀ k, (standT ts sz k).length = sz.length
  | 0 => rfl
  | k + 1 => by show (goneT ts (standT ts sz k)).length = _; rw [goneT_len, stand_len ts sz k]
theorem stand_uW {t : List Nat} (ht : TreeOk t) {v : Nat} (hv : v ≤ t.length) : ∀ k w, (((standT (tiesT t v t.length).2 ((List.replicate (t.length + 1) 0).set v 1) k).getD w 0 : Int) : Rat) = uW v (tiesT t v t.length).2 k w := by
  intro k
  induction k with
  | zero =>
    intro w
    show ((((List.replicate (t.length + 1) 0).set v 1).getD w 0 : Int) : Rat) = if w = v then 1 else 0
    rw [getD_set (by rw [List.length_replicate]; omega)]
    split
    · rfl
    · rw [List.getD_eq_getElem?_getD, List.getElem?_replicate]; split <;> rfl
  | succ k ih =>
    intro w
    show ((((tiesT t v t.length).2.foldl (goneStep _) (List.replicate _ 0)).getD w 0 : Int) : Rat) = adjR _ (uW v _ k) w
    rw [goneFold (n := t.length + 1) w _ _ (by rw [List.length_replicate, stand_len, List.length_set, List.length_replicate]) (ties_ok ht hv)]
    have e : (fun x => (((standT (tiesT t v t.length).2 ((List.replicate (t.length + 1) 0).set v 1) k).getD x 0 : Int) : Rat)) = uW v (tiesT t v t.length).2 k := funext ih
    rw [e]
    have z : ((List.replicate (standT (tiesT t v t.length).2 ((List.replicate (t.length + 1) 0).set v 1) k).length (0 : Int)).getD w 0 : Int) = 0 := by
      rw [List.getD_eq_getElem?_getD, List.getElem?_replicate]; split <;> rfl
    rw [z]; grind
theorem par_ex {v : Nat} {ins : List Nat} {ts : List (Nat × Nat)} (h : TieL v ins ts) : ∃ par : Nat → Bool, ParOk v ts par := by
  induction h with
  | nil => exact ⟨fun _ => false, rfl, fun p hp => nomatch hp⟩
  | @snoc ins ts lo up h a b ih =>
    obtain ⟨par, p0, p1⟩ := ih
    refine ⟨fun x => if x = lo then !par up else par x, ?_, fun p hp => ?_⟩
    · show (if v = lo then !par up else par v) = false
      rw [if_neg (fun e : v = lo => b (e ▸ h.root))]; exact p0
    · show (if p.1 = lo then !par up else par p.1) = !(if p.2 = lo then !par up else par p.2)
      rcases List.mem_append.mp hp with hp | hp
      · have m := h.mem p hp
        rw [if_neg (fun e : p.1 = lo => b (e ▸ m.1)), if_neg (fun e : p.2 = lo => b (e ▸ m.2))]
        exact p1 p hp
      · rw [List.mem_singleton.mp hp, if_pos rfl, if_neg (fun e : up = lo => b (e ▸ a))]
theorem ties_len (t : List Nat) (v : Nat) : ∀ k, (tiesT t v k).2.length ≤ k
  | 0 => Nat.le_refl _
  | k + 1 => by
    rw [tiesT_succ]
    unfold tieStep
    have := ties_len t v k
    split
    · rw [List.length_append, List.length_singleton]; omega
    · omega
/-- the c-th count -/
def cT (t : List Nat) (v c : Nat) : Int := (standT (tiesT t v t.length).2 ((List.replicate (t.length + 1) 0).set v 1) (2 * c)).getD v 0
theorem cT_zero {t : List Nat} {v : Nat} (hv : v ≤ t.length) : cT t v 0 = 1 := by
  show ((List.replicate (t.length + 1) (0 : Int)).set v 1).getD v 0 = 1
  rw [getD_set (by rw [List.length_replicate]; omega), if_pos rfl]
theorem walksT_eq {t : List Nat} {v : Nat} (hv : v ≤ t.length) : walksT t v = [cT t v 0, cT t v 1, cT t v 2, cT t v 3, cT t v 4, cT t v 5, cT t v 6, cT t v 7, cT t v 8] := by
  rw [cT_zero hv]
  unfold walksT
  simp only [countsT_succ, show (16 : Nat) = 15 + 1 from rfl, show (15 : Nat) = 14 + 1 from rfl, show (14 : Nat) = 13 + 1 from rfl, show (13 : Nat) = 12 + 1 from rfl, show (12 : Nat) = 11 + 1 from rfl, show (11 : Nat) = 10 + 1 from rfl, show (10 : Nat) = 9 + 1 from rfl]
  rfl
theorem cT_uW {t : List Nat} (ht : TreeOk t) {v : Nat} (hv : v ≤ t.length) (c : Nat) : ((cT t v c : Int) : Rat) = uW v (tiesT t v t.length).2 (2 * c) v := stand_uW ht hv (2 * c) v
theorem evP_cT {t : List Nat} (ht : TreeOk t) {v : Nat} (hv : v ≤ t.length) (P : Int) : evP v (tiesT t v t.length).2 (P : Rat) 8 v =
    (((((((((cT t v 0 * P + cT t v 1) * P + cT t v 2) * P + cT t v 3) * P + cT t v 4) * P + cT t v 5) * P + cT t v 6) * P + cT t v 7) * P + cT t v 8 : Int) : Rat) := by
  simp only [evP, Rat.intCast_add, Rat.intCast_mul, cT_uW ht hv]
  grind
theorem cT_bound {t : List Nat} (ht : TreeOk t) (hl : t.length ≤ 6) {v : Nat} (hv : v ≤ t.length) (c : Nat) : 0 ≤ cT t v c ∧ cT t v c ≤ 6 ^ c := by
  obtain ⟨h1, _⟩ := ties_tieL ht (v := v) t.length (Nat.le_refl _)
  obtain ⟨par, hp⟩ := par_ex h1
  have b := (uW_bound h1 hp (Nat.le_trans (ties_len t v _) hl) c).1 v
  have a := uW_nonneg v (tiesT t v t.length).2 (2 * c) v
  rw [← cT_uW ht hv] at a b
  constructor
  · exact_mod_cast a
  · have e : ((6 : Rat) ^ c) = (((6 : Int) ^ c : Int) : Rat) := by rw [Rat.intCast_pow]; rfl
    rw [e] at b
    exact Rat.intCast_le_intCast.mp b
end

section
open PySem PySem.W PyProof.Rows PySem.Calls
set_option autoImplicit false
/-- what the law's two divisions give, from the floor of W * P^8 -/
theorem floor_of {top low P C : Nat} (hlow : 0 < low) {W : Rat} (hW : W * (low : Rat) = (top : Rat)) (h1 : ((C : Nat) : Rat) ≤ W * (P : Rat) ^ 8) (h2 : W * (P : Rat) ^ 8 < ((C : Nat) : Rat) + 1) : top * P ^ 8 / low = C := by
  have l0 : (0 : Rat) < (low : Rat) := by exact_mod_cast hlow
  have e : ((top * P ^ 8 : Nat) : Rat) = W * (P : Rat) ^ 8 * (low : Rat) := by
    rw [Rat.natCast_mul, Rat.natCast_pow, ← hW]; grind
  have a : ((C * low : Nat) : Rat) ≤ ((top * P ^ 8 : Nat) : Rat) := by
    rw [e, Rat.natCast_mul]; exact Rat.mul_le_mul_of_nonneg_right h1 (by grind)
  have b : ((top * P ^ 8 : Nat) : Rat) < (((C + 1) * low : Nat) : Rat) := by
    rw [e, Rat.natCast_mul, Rat.natCast_add]
    exact Rat.mul_lt_mul_of_pos_right (by grind) l0
  have a' : C * low ≤ top * P ^ 8 := Rat.natCast_le_natCast.mp a
  have b' : top * P ^ 8 < (C + 1) * low := Rat.natCast_lt_natCast.mp b
  exact Nat.div_eq_of_lt_le a' b'
theorem two_div {top low B : Nat} (hlow : 0 < low) (hB : 0 < B) : top * B / low = top * (B * B) / low / B ∧ top * B % low * B / low = top * (B * B) / low % B := by
  have h1 : top * (B * B) = (top * B / low * B) * low + top * B % low * B := by
    have := Nat.div_add_mod (top * B) low
    calc top * (B * B) = (top * B) * B := by rw [Nat.mul_assoc]
      _ = (low * (top * B / low) + top * B % low) * B := by rw [this]
      _ = _ := by rw [Nat.add_mul]; congr 1; rw [Nat.mul_assoc, Nat.mul_comm]
  have h2 : top * (B * B) / low = top * B / low * B + top * B % low * B / low := by
    rw [h1, Nat.add_comm, Nat.add_mul_div_right _ _ hlow, Nat.add_comm]
  have h3 : top * B % low * B / low < B := by
    rw [Nat.div_lt_iff_lt_mul hlow, Nat.mul_comm B low]
    exact Nat.mul_lt_mul_of_pos_right (Nat.mod_lt _ hlow) hB
  rw [h2]
  constructor
  · rw [Nat.add_comm, Nat.add_mul_div_right _ _ hB, Nat.div_eq_of_lt h3, Nat.zero_add]
  · rw [Nat.add_comm, Nat.add_mul_mod_self_right, Nat.mod_eq_of_lt h3]
end

section
open PySem PySem.W PyProof.Rows PySem.Calls
set_option autoImplicit false
/-- the law's numbers, folder by folder: over, under, and what was met (top, low) -/
structure PS where
  ov : Nat → Nat
  un : Nat → Nat
  tp : Nat → Nat
  lw : Nat → Nat
def PS.init : PS := ⟨fun _ => 0, fun _ => 1, fun _ => 0, fun _ => 1⟩
def procS (t : List Nat) (B : Nat) (s : PS) (v : Nat) : PS :=
  let top := s.un v * B
  let low := top - s.ov v
  let s1 : PS := ⟨s.ov, s.un, fun x => if x = v then top else s.tp x, fun x => if x = v then low else s.lw x⟩
  if v = 0 then s1 else
  let up := t.getD (v - 1) 0
  { s1 with ov := fun x => if x = up then s.ov up * low + top * s.un up else s.ov x, un := fun x => if x = up then s.un up * low else s.un x }
/-- the weights of w's kids, of those in D -/
def KS (t : List Nat) (D : List Nat) (W : Nat → Rat) (w : Nat) : Rat := ((List.range t.length).map fun k => if t.getD k 0 = w ∧ (k + 1) ∈ D then W (k + 1) else 0).sum
def PS.W (s : PS) (c : Nat) : Rat := (s.tp c : Rat) / (s.lw c : Rat)
structure PInv (t : List Nat) (B : Nat) (D : List Nat) (s : PS) : Prop where
  done : ∀ c ∈ D, 0 < s.lw c ∧ 0 ≤ s.W c ∧ s.W c ≤ 2 ∧ s.W c * ((B : Rat) - KS t D s.W c) = (B : Rat) ∧ ∀ k, k < t.length → t.getD k 0 = c → (k + 1) ∈ D
  left : ∀ w, w ∉ D → 1 ≤ s.un w ∧ (s.ov w : Rat) = (s.un w : Rat) * KS t D s.W w
theorem KS_congr {t : List Nat} {D : List Nat} {W W' : Nat → Rat} {w : Nat} (h : ∀ c ∈ D, W c = W' c) : KS t D W w = KS t D W' w := by
  unfold KS
  congr 1
  refine List.map_congr_left fun k _ => ?_
  split
  · rename_i e; exact h _ e.2
  · rfl
/-- one more of the folders is met -/
theorem KS_cons {t : List Nat} {D : List Nat} {W : Nat → Rat} {v w : Nat} (hv : v ∉ D) (hn : v ≤ t.length) : KS t (v :: D) W w = KS t D W w + if v ≠ 0 ∧ t.getD (v - 1) 0 = w then W v else 0 := by
  have key : ∀ l : List Nat, l.Nodup → (l.map fun k => if t.getD k 0 = w ∧ (k + 1) ∈ v :: D then W (k + 1) else 0).sum = (l.map fun k => if t.getD k 0 = w ∧ (k + 1) ∈ D then W (k + 1) else 0).sum + if (v ≠ 0 ∧ t.getD (v - 1) 0 = w) ∧ (v - 1) ∈ l then W v else 0 := by
    intro l nd
    have := totR_at (up := v - 1) (f := fun k => if t.getD k 0 = w ∧ (k + 1) ∈ D then W (k + 1) else 0) (g := fun k => if t.getD k 0 = w ∧ (k + 1) ∈ v :: D then W (k + 1) else 0) (d := if v ≠ 0 ∧ t.getD (v - 1) 0 = w then W v else 0) nd (fun k => by
      by_cases h0 : v = 0
      · subst h0
        have d0 : (if (0 : Nat) ≠ 0 ∧ t.getD (0 - 1) 0 = w then W 0 else (0 : Rat)) = 0 := if_neg (fun h => h.1 rfl)
        rw [d0]
        have e : ((k + 1) ∈ 0 :: D) = ((k + 1) ∈ D) := by simp
        simp only [e]; grind
      · by_cases hk : k = v - 1
        · subst hk
          have e1 : v - 1 + 1 = v := by omega
          rw [e1, if_pos rfl]
          by_cases hw : t.getD (v - 1) 0 = w
          · rw [if_pos ⟨hw, List.mem_cons_self⟩, if_neg (fun h => hv h.2), if_pos ⟨h0, hw⟩]; grind
          · rw [if_neg (fun h => hw h.1), if_neg (fun h => hw h.1), if_neg (fun h => hw h.2)]; grind
        · rw [if_neg hk]
          have e : ((k + 1) ∈ v :: D) = ((k + 1) ∈ D) := by
            rw [List.mem_cons]
            have : ¬ k + 1 = v := by omega
            simp [this]
          simp only [e]; grind)
    unfold totR at this
    rw [this]
    congr 1
    by_cases hm : v - 1 ∈ l
    · rw [if_pos hm]; by_cases hc : v ≠ 0 ∧ t.getD (v - 1) 0 = w
      · rw [if_pos hc, if_pos ⟨hc, hm⟩]
      · rw [if_neg hc, if_neg (fun h => hc h.1)]
    · rw [if_neg hm, if_neg (fun h => hm h.2)]
  unfold KS
  rw [key _ List.nodup_range]
  congr 1
  by_cases hc : v ≠ 0 ∧ t.getD (v - 1) 0 = w
  · rw [if_pos hc, if_pos ⟨hc, by rw [List.mem_range]; omega⟩]
  · rw [if_neg hc, if_neg (fun h => hc h.1)]
theorem KS_bound {t : List Nat} {D : List Nat} {W : Nat → Rat} {w : Nat} (h : ∀ c ∈ D, 0 ≤ W c ∧ W c ≤ 2) : 0 ≤ KS t D W w ∧ KS t D W w ≤ (t.length : Rat) * 2 := by
  have key : ∀ l : List Nat, 0 ≤ (l.map fun k => if t.getD k 0 = w ∧ (k + 1) ∈ D then W (k + 1) else 0).sum ∧ (l.map fun k => if t.getD k 0 = w ∧ (k + 1) ∈ D then W (k + 1) else 0).sum ≤ (l.length : Rat) * 2 := by
    intro l
    induction l with
    | nil => simp
    | cons k l ih =>
      rw [List.map_cons, List.sum_cons, List.length_cons]
      have e : ((l.length + 1 : Nat) : Rat) = (l.length : Rat) + 1 := by exact Rat.natCast_add ..
      rw [e]
      have hb : 0 ≤ (if t.getD k 0 = w ∧ (k + 1) ∈ D then W (k + 1) else 0) ∧ (if t.getD k 0 = w ∧ (k + 1) ∈ D then W (k + 1) else 0) ≤ 2 := by
        split
        · rename_i hc; exact h _ hc.2
        · exact ⟨by decide, by decide⟩
      constructor <;> grind
  have := key (List.range t.length)
  rw [List.length_range] at this
  exact this
theorem procS_W {t : List Nat} {B : Nat} {s : PS} {v c : Nat} (hc : c ≠ v) : (procS t B s v).W c = s.W c := by
  unfold procS PS.W
  by_cases h0 : v = 0
  · simp [h0, show ¬ c = 0 from fun e => hc (e.trans h0.symm)]
  · simp [h0, hc]
theorem procS_Wv {t : List Nat} {B : Nat} {s : PS} {v : Nat} : (procS t B s v).W v = ((s.un v * B : Nat) : Rat) / ((s.un v * B - s.ov v : Nat) : Rat) := by
  unfold procS PS.W
  by_cases h0 : v = 0
  · simp [h0]
  · simp [h0]
theorem procS_lw {t : List Nat} {B : Nat} {s : PS} {v c : Nat} : (procS t B s v).lw c = if c = v then s.un v * B - s.ov v else s.lw c := by
  unfold procS
  by_cases h0 : v = 0 <;> simp [h0]
theorem procS_tp {t : List Nat} {B : Nat} {s : PS} {v c : Nat} : (procS t B s v).tp c = if c = v then s.un v * B else s.tp c := by
  unfold procS
  by_cases h0 : v = 0 <;> simp [h0]
theorem procS_ov {t : List Nat} {B : Nat} {s : PS} {v c : Nat} : (procS t B s v).ov c = if v ≠ 0 ∧ c = t.getD (v - 1) 0 then s.ov c * (s.un v * B - s.ov v) + s.un v * B * s.un c else s.ov c := by
  unfold procS
  by_cases h0 : v = 0
  · simp [h0]
  · by_cases hc : c = t.getD (v - 1) 0
    · subst hc; simp [h0]
    · simp only [h0, hc, if_false, and_false]
theorem procS_un {t : List Nat} {B : Nat} {s : PS} {v c : Nat} : (procS t B s v).un c = if v ≠ 0 ∧ c = t.getD (v - 1) 0 then s.un c * (s.un v * B - s.ov v) else s.un c := by
  unfold procS
  by_cases h0 : v = 0
  · simp [h0]
  · by_cases hc : c = t.getD (v - 1) 0
    · subst hc; simp [h0]
    · simp only [h0, hc, if_false, and_false]
/-- the folder is whole: what lies in it is met, that in which it lies is not -/
structure Good (t pre : List Nat) (v : Nat) : Prop where
  le : v ≤ t.length
  new : v ∉ pre
  kids : ∀ k, k < t.length → t.getD k 0 = v → (k + 1) ∈ pre
  up : v ≠ 0 → t.getD (v - 1) 0 ∉ pre
theorem procS_inv {t : List Nat} {B : Nat} {D : List Nat} {s : PS} {v : Nat} (ht : TreeOk t) (hlen : t.length ≤ 6) (hB : 4294967296 ≤ B) (h : PInv t B D s) (g : Good t D v) :
    PInv t B (v :: D) (procS t B s v) ∧ s.ov v < s.un v * B ∧ s.un v * B ≤ 2 * (s.un v * B - s.ov v) ∧ 2147483648 ≤ s.un v * B - s.ov v := by
  have hup : v ≠ 0 → t.getD (v - 1) 0 ≠ v := fun h0 e => by
    have hle := g.le
    have h1 : t[v - 1]? = some (t.getD (v - 1) 0) := by rw [List.getD_eq_getElem?_getD, List.getElem?_eq_getElem (by omega)]; rfl
    have := ht _ _ h1
    omega
  have l1 := h.left v g.new
  have kb := KS_bound (t := t) (D := D) (W := s.W) (w := v) fun c hc => ⟨(h.done c hc).2.1, (h.done c hc).2.2.1⟩
  have hl12 : (t.length : Rat) * 2 ≤ 12 := by
    have : ((t.length : Nat) : Rat) ≤ ((6 : Nat) : Rat) := Rat.natCast_le_natCast.mpr hlen
    have : (t.length : Rat) ≤ 6 := this
    grind
  have u1 : (1 : Rat) ≤ (s.un v : Rat) := by exact_mod_cast l1.1
  have B1 : (4294967296 : Rat) ≤ (B : Rat) := by exact_mod_cast hB
  have ovb : (s.ov v : Rat) ≤ (s.un v : Rat) * 12 := by
    rw [l1.2]; exact Rat.mul_le_mul_of_nonneg_left (by grind) (by grind)
  have ovn : s.ov v ≤ s.un v * 12 := by
    have : ((s.ov v : Nat) : Rat) ≤ ((s.un v * 12 : Nat) : Rat) := by rw [Rat.natCast_mul]; exact ovb
    exact Rat.natCast_le_natCast.mp this
  have unB : s.un v * 4294967296 ≤ s.un v * B := Nat.mul_le_mul_left _ hB
  have hlt : s.ov v < s.un v * B := by have := l1.1; omega
  have hlow : 2147483648 ≤ s.un v * B - s.ov v := by have := l1.1; omega
  have h2 : s.un v * B ≤ 2 * (s.un v * B - s.ov v) := by have := l1.1; omega
  refine ⟨?_, hlt, h2, hlow⟩
  have lowQ : ((s.un v * B - s.ov v : Nat) : Rat) = (s.un v : Rat) * ((B : Rat) - KS t D s.W v) := by
    have e1 : ((s.un v * B - s.ov v + s.ov v : Nat) : Rat) = ((s.un v * B : Nat) : Rat) := by rw [Nat.sub_add_cancel (Nat.le_of_lt hlt)]
    rw [Rat.natCast_add, Rat.natCast_mul, l1.2] at e1
    grind
  have low0 : (0 : Rat) < ((s.un v * B - s.ov v : Nat) : Rat) := by exact_mod_cast (by omega : 0 < s.un v * B - s.ov v)
  have Wv : (procS t B s v).W v * ((s.un v * B - s.ov v : Nat) : Rat) = (s.un v : Rat) * (B : Rat) := by
    rw [procS_Wv, Rat.div_mul_cancel (by grind), Rat.natCast_mul]
  have Wv2 : (procS t B s v).W v * ((B : Rat) - KS t D s.W v) = (B : Rat) := by
    rw [lowQ] at Wv
    have hu : ((s.un v : Rat))⁻¹ * (s.un v : Rat) = 1 := Rat.inv_mul_cancel _ (by grind)
    have e : ((s.un v : Rat))⁻¹ * ((procS t B s v).W v * ((s.un v : Rat) * ((B : Rat) - KS t D s.W v))) = ((s.un v : Rat))⁻¹ * ((s.un v : Rat) * (B : Rat)) := by rw [Wv]
    grind
  have Wv0 : 0 ≤ (procS t B s v).W v := by
    refine Rat.le_of_mul_le_mul_right (c := ((s.un v * B - s.ov v : Nat) : Rat)) ?_ low0
    rw [Wv, Rat.zero_mul]
    exact Rat.mul_nonneg (by grind) (by grind)
  have Wv3 : (procS t B s v).W v ≤ 2 := by
    refine Rat.le_of_mul_le_mul_right (c := ((s.un v * B - s.ov v : Nat) : Rat)) ?_ low0
    rw [Wv]
    have : ((s.un v * B : Nat) : Rat) ≤ ((2 * (s.un v * B - s.ov v) : Nat) : Rat) := Rat.natCast_le_natCast.mpr h2
    rw [Rat.natCast_mul, Rat.natCast_mul] at this
    exact this
  have WD : ∀ c ∈ D, (procS t B s v).W c = s.W c := fun c hc => procS_W fun e => g.new (e ▸ hc)
  have KD : ∀ w, KS t D (procS t B s v).W w = KS t D s.W w := fun w => KS_congr WD
  constructor
  · intro c hc
    by_cases hcv : c = v
    · subst hcv
      rw [procS_lw, if_pos rfl]
      refine ⟨by omega, Wv0, Wv3, ?_, fun k hk e => .tail _ (g.kids k hk e)⟩
      rw [KS_cons g.new g.le, if_neg (show ¬ (c ≠ 0 ∧ t.getD (c - 1) 0 = c) from fun hh => hup hh.1 hh.2), KD]
      grind
    · have hcD : c ∈ D := (List.mem_cons.mp hc).resolve_left hcv
      have d := h.done c hcD
      rw [procS_lw, if_neg hcv, WD c hcD]
      refine ⟨d.1, d.2.1, d.2.2.1, ?_, fun k hk e => .tail _ (d.2.2.2.2 k hk e)⟩
      rw [KS_cons g.new g.le, if_neg (show ¬ (v ≠ 0 ∧ t.getD (v - 1) 0 = c) from fun hh => g.up hh.1 (hh.2.symm ▸ hcD)), KD]
      have := d.2.2.2.1
      grind
  · intro w hw
    rw [List.mem_cons, not_or] at hw
    have lw := h.left w hw.2
    rw [procS_ov, procS_un, KS_cons g.new g.le, KD]
    by_cases hc : v ≠ 0 ∧ w = t.getD (v - 1) 0
    · rw [if_pos hc, if_pos hc, if_pos ⟨hc.1, hc.2.symm⟩]
      refine ⟨Nat.mul_pos lw.1 (by omega), ?_⟩
      rw [Rat.natCast_add, Rat.natCast_mul, Rat.natCast_mul, Rat.natCast_mul, Rat.natCast_mul, lw.2]
      grind
    · rw [if_neg hc, if_neg hc, if_neg (fun hh => hc ⟨hh.1, hh.2.symm⟩)]
      refine ⟨lw.1, ?_⟩
      rw [lw.2]; grind
theorem PInv.init (t : List Nat) (B : Nat) : PInv t B [] PS.init := by
  have hz : ∀ w, KS t [] PS.init.W w = 0 := by
    intro w
    unfold KS
    have e : (fun k => if t.getD k 0 = w ∧ (k + 1) ∈ ([] : List Nat) then PS.init.W (k + 1) else 0) = fun _ => (0 : Rat) := by funext k; simp
    rw [e]
    induction List.range t.length with
    | nil => rfl
    | cons a l ih => rw [List.map_cons, List.sum_cons, ih]; grind
  constructor
  · intro c hc; cases hc
  · intro w _
    refine ⟨Nat.le_refl _, ?_⟩
    rw [hz]
    rw [Rat.mul_zero]; rfl
theorem PInv.mem {t : List Nat} {B : Nat} {D D' : List Nat} {s : PS} (h : PInv t B D s) (e : ∀ x, x ∈ D ↔ x ∈ D') : PInv t B D' s := by
  have ek : ∀ w, KS t D s.W w = KS t D' s.W w := fun w => by
    unfold KS
    congr 1
    refine List.map_congr_left fun k _ => ?_
    simp only [e]
  refine ⟨fun c hc => ?_, fun w hw => ?_⟩
  · have d := h.done c ((e c).mpr hc)
    rw [← ek]
    exact ⟨d.1, d.2.1, d.2.2.1, d.2.2.2.1, fun k hk q => (e _).mp (d.2.2.2.2 k hk q)⟩
  · have l := h.left w (fun q => hw ((e w).mp q))
    rw [← ek]; exact l
end

section
open PySem PySem.W PyProof.Rows PySem.Calls
set_option autoImplicit false
/-- handed out: marked -/
def markS (np : List Int) (bt : List Nat) : List Int := bt.foldl (fun np v => np.set v (-1)) np
/-- the state behind one batch -/
def nextS (t : List Nat) (np : List Int) (bt : List Nat) : List Int × List Nat := bt.foldl (doneS t) (markS np bt, [])
/-- the number of folders in a folder -/
def startN (t : List Nat) : List Int := (List.range (t.length + 1)).map fun v => ((t.countP (· == v) : Nat) : Int)
def startB (np : List Int) (i : Nat) : List Nat := (List.range i).filter fun v => decide (np.getD v 1 = 0)
def stepE (t : List Nat) (ex : List Nat) (v : Nat) : List Nat := if v = 0 then ex else ex.set (t.getD (v - 1) 0) (ex.getD (t.getD (v - 1) 0) 0 + ex.getD v 0 + 1)
def exS (t pre : List Nat) : List Nat := pre.foldl (stepE t) (List.replicate (t.length + 1) 0)
def okV (t : List Nat) (pre : List Nat) (v : Nat) : Bool :=
  Nat.ble v t.length && !pre.contains v && (List.range t.length).all (fun k => !Nat.beq (t.getD k 0) v || pre.contains (k + 1)) && (Nat.beq v 0 || !(pre.contains (t.getD (v - 1) 0)))
/-- a batch: marked when its turn comes -/
def okB (t : List Nat) : List Int × List Nat → List Nat → List Nat → List Nat → Bool
  | _, _, _, [] => true
  | s, pre, ex, v :: bt => okV t pre v && decide (s.1.getD v 0 = -1) && (ex.all fun e => Nat.ble e 6) && okB t (doneS t s v) (pre ++ [v]) (stepE t ex v) bt
def okT (t : List Nat) : Nat → List Int × List Nat → List Nat → List Nat → Bool
  | 0, _, _, _ => false
  | f + 1, s, pre, ex => match s.2 with
    | [] => (List.range (t.length + 1)).all fun v => pre.contains v
    | _ :: _ => Nat.ble (pre.length + s.2.length) 7 && okB t (markS s.1 s.2, []) pre ex s.2 && okT t f (nextS t s.1 s.2) (pre ++ s.2) (s.2.foldl (stepE t) ex)
def okTree (t : List Nat) : Bool := okT t 8 (startN t, startB (startN t) (t.length + 1)) [] (List.replicate (t.length + 1) 0)
def grow (ts : List (List Nat)) (k : Nat) : List (List Nat) := ts.flatMap fun t => (List.range (k + 1)).map fun a => t ++ [a]
def treesN : Nat → List (List Nat)
  | 0 => [[]]
  | n + 1 => grow (treesN n) n
/-- each folder of the list was whole at its turn -/
def SeqOk (t pre : List Nat) : Prop := ∀ (i v : Nat), pre[i]? = some v → Good t (pre.take i) v ∧ ∀ w, (exS t (pre.take i)).getD w 0 ≤ 6
/-- the rounds of the sorter -/
inductive Run (t : List Nat) : List Int → List Nat → List Nat → Prop
  | stop (np : List Int) (pre : List Nat) : (∀ v, v ≤ t.length → v ∈ pre) → Run t np [] pre
  | step (np : List Int) (bt pre : List Nat) : bt ≠ [] → pre.length + bt.length ≤ 7 →
      (∀ (i v : Nat), bt[i]? = some v → Good t (pre ++ bt.take i) v ∧ (∀ w, (exS t (pre ++ bt.take i)).getD w 0 ≤ 6) ∧ ((bt.take i).foldl (doneS t) (markS np bt, [])).1[v]? = some (-1)) →
      Run t (nextS t np bt).1 (nextS t np bt).2 (pre ++ bt) → Run t np bt pre
theorem okV_good {t pre : List Nat} {v : Nat} (h : okV t pre v = true) : Good t pre v := by
  unfold okV at h
  simp only [Bool.and_eq_true, Bool.or_eq_true, Bool.not_eq_true', Nat.ble_eq, Nat.beq_eq, List.all_eq_true, List.mem_range, List.contains_eq_mem, decide_eq_false_iff_not, decide_eq_true_eq] at h
  obtain ⟨⟨⟨h1, h2⟩, h3⟩, h4⟩ := h
  refine ⟨h1, h2, fun k hk e => ?_, fun h0 => h4.resolve_left h0⟩
  rcases h3 k hk with h5 | h5
  · exact absurd e (Nat.ne_of_beq_eq_false h5)
  · exact h5
theorem exS_app (t pre bt : List Nat) : exS t (pre ++ bt) = bt.foldl (stepE t) (exS t pre) := by unfold exS; rw [List.foldl_append]
theorem getD_neg1 {l : List Int} {v : Nat} (h : l.getD v 0 = -1) : l[v]? = some (-1) := by
  rw [List.getD_eq_getElem?_getD] at h
  cases e : l[v]? with
  | none => rw [e] at h; exact absurd h (by decide)
  | some x => rw [e] at h; exact congrArg some h
theorem all_getD {l : List Nat} (h : (l.all fun e => Nat.ble e 6) = true) (w : Nat) : l.getD w 0 ≤ 6 := by
  rw [List.getD_eq_getElem?_getD]
  cases e : l[w]? with
  | none => exact Nat.zero_le _
  | some x => exact Nat.le_of_ble_eq_true (List.all_eq_true.mp h x (List.mem_of_getElem? e))
theorem okB_all {t : List Nat} : ∀ (bt : List Nat) (s : List Int × List Nat) (pre : List Nat), okB t s pre (exS t pre) bt = true →
    ∀ (i v : Nat), bt[i]? = some v → Good t (pre ++ bt.take i) v ∧ (∀ w, (exS t (pre ++ bt.take i)).getD w 0 ≤ 6) ∧ ((bt.take i).foldl (doneS t) s).1[v]? = some (-1)
  | [], _, _, _, i, v, e => by simp at e
  | b :: bt, s, pre, h, i, v, e => by
    unfold okB at h
    simp only [Bool.and_eq_true, decide_eq_true_eq] at h
    obtain ⟨⟨⟨h1, h2⟩, h3⟩, h4⟩ := h
    cases i with
    | zero =>
      rw [List.getElem?_cons_zero] at e
      cases Option.some.inj e
      rw [List.take_zero, List.append_nil]
      exact ⟨okV_good h1, all_getD h3, getD_neg1 h2⟩
    | succ i =>
      rw [List.getElem?_cons_succ] at e
      have e2 : stepE t (exS t pre) b = exS t (pre ++ [b]) := by rw [exS_app]; rfl
      rw [e2] at h4
      have ih := okB_all bt _ _ h4 i v e
      rw [List.take_succ_cons, List.foldl_cons]
      rw [List.append_assoc] at ih
      exact ih
theorem okT_run {t : List Nat} : ∀ (f : Nat) (s : List Int × List Nat) (pre : List Nat), okT t f s pre (exS t pre) = true → Run t s.1 s.2 pre
  | 0, _, _, h => by unfold okT at h; cases h
  | f + 1, (np, bt), pre, h => by
    cases bt with
    | nil =>
      unfold okT at h
      simp only [List.all_eq_true, List.mem_range, List.contains_eq_mem, decide_eq_true_eq] at h
      exact .stop np pre fun v hv => h v (by omega)
    | cons b bt =>
      unfold okT at h
      simp only [Bool.and_eq_true, Nat.ble_eq] at h
      obtain ⟨⟨h1, h2⟩, h3⟩ := h
      refine .step np (b :: bt) pre (fun e => nomatch e) h1 (okB_all _ _ _ h2) ?_
      rw [← exS_app] at h3
      exact okT_run f _ _ h3
theorem ok2 : (treesN 2).all okTree = true := by decide +kernel
theorem ok3 : (treesN 3).all okTree = true := by decide +kernel
theorem ok4 : (treesN 4).all okTree = true := by decide +kernel
theorem ok5 : (treesN 5).all okTree = true := by decide +kernel
theorem all_cut {α : Type} {p : α → Bool} {l : List α} (k : Nat) (h1 : (l.take k).all p = true) (h2 : (l.drop k).all p = true) : l.all p = true := by
  rw [← List.take_append_drop k l, List.all_append, h1, h2]; rfl
def t61 : List (List Nat) := (treesN 6).drop 120
def t62 : List (List Nat) := t61.drop 120
def t63 : List (List Nat) := t62.drop 120
def t64 : List (List Nat) := t63.drop 120
def t65 : List (List Nat) := t64.drop 120
theorem ok60 : ((treesN 6).take 120).all okTree = true := by decide +kernel
theorem ok61 : (t61.take 120).all okTree = true := by decide +kernel
theorem ok62 : (t62.take 120).all okTree = true := by decide +kernel
theorem ok63 : (t63.take 120).all okTree = true := by decide +kernel
theorem ok64 : (t64.take 120).all okTree = true := by decide +kernel
theorem ok65 : t65.all okTree = true := by decide +kernel
theorem ok6 : (treesN 6).all okTree = true := all_cut 120 ok60 (all_cut (l := t61) 120 ok61 (all_cut (l := t62) 120 ok62 (all_cut (l := t63) 120 ok63 (all_cut (l := t64) 120 ok64 ok65))))
theorem mem_trees : ∀ (n : Nat) (t : List Nat), t.length = n → TreeOk t → t ∈ treesN n
  | 0, t, h, _ => by rw [List.length_eq_zero_iff.mp h]; exact List.mem_singleton.mpr rfl
  | n + 1, t, h, ht => by
    have hne : t ≠ [] := fun e => by rw [e] at h; cases h
    have e := List.dropLast_concat_getLast hne
    have h1 : t.dropLast.length = n := by rw [List.length_dropLast]; omega
    have h2 : TreeOk t.dropLast := fun i a hi => by
      have hi2 := (List.getElem?_eq_some_iff.mp hi).1
      refine ht i a ?_
      rw [← e, List.getElem?_append_left hi2]; exact hi
    have h3 := mem_trees n _ h1 h2
    have h4 : t.getLast hne ≤ n := ht n _ (by rw [← List.getLast?_eq_some_getLast hne, List.getLast?_eq_getElem?]; congr 1; omega)
    show t ∈ grow (treesN n) n
    unfold grow
    rw [List.mem_flatMap]
    exact ⟨_, h3, List.mem_map.mpr ⟨_, List.mem_range.mpr (by omega), e⟩⟩
theorem run_start {t : List Nat} (ht : TreeOk t) (h2 : 2 ≤ t.length) (h6 : t.length ≤ 6) : Run t (startN t) (startB (startN t) (t.length + 1)) [] := by
  have hm := mem_trees t.length t rfl ht
  refine okT_run 8 (_, _) [] (?_ : okTree t = true)
  have : t.length = 2 ∨ t.length = 3 ∨ t.length = 4 ∨ t.length = 5 ∨ t.length = 6 := by omega
  rcases this with e | e | e | e | e <;> rw [e] at hm
  · exact List.all_eq_true.mp ok2 _ hm
  · exact List.all_eq_true.mp ok3 _ hm
  · exact List.all_eq_true.mp ok4 _ hm
  · exact List.all_eq_true.mp ok5 _ hm
  · exact List.all_eq_true.mp ok6 _ hm
theorem SeqOk.nil (t : List Nat) : SeqOk t [] := fun i v e => by simp at e
theorem SeqOk.app {t pre bt : List Nat} (h : SeqOk t pre) (h2 : ∀ (i v : Nat), bt[i]? = some v → Good t (pre ++ bt.take i) v ∧ ∀ w, (exS t (pre ++ bt.take i)).getD w 0 ≤ 6) : SeqOk t (pre ++ bt) := fun i v e => by
  by_cases hi : i < pre.length
  · rw [List.getElem?_append_left hi] at e
    rw [List.take_append_of_le_length (by omega)]
    exact h i v e
  · rw [List.getElem?_append_right (by omega)] at e
    have h3 := h2 _ _ e
    have e3 : (pre ++ bt).take i = pre ++ bt.take (i - pre.length) := by
      rw [List.take_append, List.take_of_length_le (by omega)]
    rw [e3]; exact h3
theorem SeqOk.take {t pre : List Nat} (h : SeqOk t pre) (n : Nat) : SeqOk t (pre.take n) := fun i v e => by
  by_cases hi : i < n
  · rw [List.getElem?_take_of_lt hi] at e
    rw [List.take_take, Nat.min_eq_left (by omega)]
    exact h i v e
  · rw [List.getElem?_take_eq_none (by omega)] at e; cases e
def numS (t : List Nat) (B : Nat) (pre : List Nat) : PS := pre.foldl (procS t B) PS.init
theorem numS_snoc (t : List Nat) (B : Nat) (pre : List Nat) (v : Nat) : numS t B (pre ++ [v]) = procS t B (numS t B pre) v := by unfold numS; rw [List.foldl_append]; rfl
theorem exS_snoc (t pre : List Nat) (v : Nat) : exS t (pre ++ [v]) = stepE t (exS t pre) v := by rw [exS_app]; rfl
theorem exS_len (t pre : List Nat) : (exS t pre).length = t.length + 1 := by
  have : ∀ (pre ex : List Nat), (pre.foldl (stepE t) ex).length = ex.length := by
    intro pre
    induction pre with
    | nil => intro ex; rfl
    | cons v pre ih =>
      intro ex; rw [List.foldl_cons, ih]; unfold stepE; split
      · rfl
      · rw [List.length_set]
  unfold exS; rw [this, List.length_replicate]
/-- what the numbers are behind a list of whole folders -/
theorem numS_inv {t : List Nat} {B : Nat} (ht : TreeOk t) (hlen : t.length ≤ 6) (hB : 4294967296 ≤ B) : ∀ (n : Nat) (pre : List Nat), pre.length = n → SeqOk t pre → PInv t B pre (numS t B pre) ∧ ∀ w, w ≤ t.length → (numS t B pre).un w ≤ B ^ (exS t pre).getD w 0
  | 0, pre, hn, _ => by
    rw [List.length_eq_zero_iff.mp hn]
    refine ⟨PInv.init t B, fun w _ => ?_⟩
    show 1 ≤ B ^ _
    exact Nat.one_le_pow _ _ (by omega)
  | n + 1, pre, hn, hs => by
    have hne : pre ≠ [] := fun e => by rw [e] at hn; cases hn
    have e := List.dropLast_concat_getLast hne
    generalize pre.getLast hne = v at e
    have hl : pre.dropLast.length = n := by rw [List.length_dropLast]; omega
    generalize pre.dropLast = pr at e hl
    subst e
    have hs1 : SeqOk t pr := by
      have := hs.take pr.length
      rw [List.take_append_of_le_length (Nat.le_refl _), List.take_length] at this
      exact this
    obtain ⟨ih, ihe⟩ := numS_inv ht hlen hB n pr hl hs1
    have hv := hs pr.length v (by rw [List.getElem?_append_right (Nat.le_refl _), Nat.sub_self]; rfl)
    rw [List.take_append_of_le_length (Nat.le_refl _), List.take_length] at hv
    obtain ⟨p1, p2, p3, p4⟩ := procS_inv ht hlen hB ih hv.1
    rw [numS_snoc]
    refine ⟨p1.mem fun x => by simp [or_comm], fun w hw => ?_⟩
    rw [procS_un, exS_snoc]
    unfold stepE
    by_cases h0 : v = 0
    · rw [if_neg (fun hh => hh.1 h0), if_pos h0]; exact ihe w hw
    · rw [if_neg h0]
      by_cases hc : w = t.getD (v - 1) 0
      · rw [if_pos ⟨h0, hc⟩, ← hc, List.getD_eq_getElem?_getD, List.getElem?_set_self (by rw [exS_len]; omega)]
        show _ ≤ B ^ ((exS t pr).getD w 0 + (exS t pr).getD v 0 + 1)
        rw [Nat.add_assoc, Nat.pow_add]
        refine Nat.mul_le_mul (ihe w hw) (Nat.le_trans (Nat.sub_le _ _) ?_)
        rw [Nat.pow_succ]
        exact Nat.mul_le_mul_right _ (ihe v hv.1.le)
      · rw [if_neg (fun hh => hc hh.2), List.getD_eq_getElem?_getD, List.getElem?_set_ne (fun q => hc q.symm), ← List.getD_eq_getElem?_getD]
        exact ihe w hw
end

section
open PySem PySem.W PyProof.Rows PySem.Calls
set_option autoImplicit false
def evalD (P : Nat) (ds : List Nat) : Nat := ds.foldr (fun d a => d + P * a) 0
theorem evalD_cons (P d : Nat) (ds : List Nat) : evalD P (d :: ds) = d + P * evalD P ds := rfl
theorem evalD_lt {P : Nat} (hP : 0 < P) : ∀ {ds : List Nat}, (∀ d ∈ ds, d < P) → evalD P ds < P ^ ds.length
  | [], _ => by show 0 < 1; decide
  | d :: ds, h => by
    rw [evalD_cons, List.length_cons, Nat.pow_succ]
    have h1 := h d List.mem_cons_self
    have h2 := evalD_lt hP (ds := ds) fun x hx => h x (.tail _ hx)
    have h3 : P * (evalD P ds + 1) ≤ P * P ^ ds.length := Nat.mul_le_mul_left _ h2
    rw [Nat.mul_add] at h3
    rw [Nat.mul_comm (P ^ _)]
    omega
theorem evalD_app (P : Nat) : ∀ (a b : List Nat), evalD P (a ++ b) = evalD P a + P ^ a.length * evalD P b
  | [], b => by show evalD P b = 0 + 1 * evalD P b; omega
  | d :: a, b => by
    rw [List.cons_append, evalD_cons, evalD_cons, evalD_app P a b, List.length_cons, Nat.pow_succ, Nat.mul_add, Nat.mul_comm (P ^ _) P, Nat.mul_assoc]
    omega
theorem evalD_cut {P : Nat} (hP : 0 < P) {a b : List Nat} (h : ∀ d ∈ a, d < P) : evalD P (a ++ b) / P ^ a.length = evalD P b ∧ evalD P (a ++ b) % P ^ a.length = evalD P a := by
  have h1 := evalD_lt hP h
  rw [evalD_app]
  constructor
  · rw [Nat.add_mul_div_left _ _ (Nat.pow_pos hP), Nat.div_eq_of_lt h1, Nat.zero_add]
  · rw [Nat.add_mul_mod_self_left, Nat.mod_eq_of_lt h1]
theorem dg_eval {n : Nat} : ∀ {ds : List Nat}, (∀ d ∈ ds, d < 2 ^ n) → dg (evalD (2 ^ n) ds) n ds.length = ds.map Int.ofNat
  | [], _ => rfl
  | d :: ds, h => by
    have h1 := h d List.mem_cons_self
    rw [List.length_cons, Nat.add_comm, dg_split, Nat.mul_one, evalD_cons, Nat.add_mul_mod_self_left, Nat.mod_eq_of_lt h1, Nat.add_mul_div_left _ _ (Nat.pow_pos (by decide)), Nat.div_eq_of_lt h1, Nat.zero_add, dg_one h1, dg_eval fun x hx => h x (.tail _ hx)]
    rfl
/-- as many digits as there are -/
theorem count_eval {n : Nat} (hn : 0 < n) {ds : List Nat} (h : ∀ d ∈ ds, d < 2 ^ n) (hl : ds ≠ [] → 0 < evalD (2 ^ n) ds / (2 ^ n) ^ (ds.length - 1)) : (Builtin.Int.intBits ((evalD (2 ^ n) ds : Nat) : Int) + n - 1) / n = ds.length := by
  have h1 := evalD_lt (Nat.pow_pos (by decide : 0 < 2)) h
  rw [← Nat.pow_mul] at h1
  have h2 := bits_le h1
  by_cases he : ds = []
  · subst he
    have : Builtin.Int.intBits ((evalD (2 ^ n) [] : Nat) : Int) = 0 := by
      have := h2; simpa using this
    rw [this]
    exact Nat.div_eq_of_lt (by omega)
  · have h3 := hl he
    have h4 : ¬ Builtin.Int.intBits ((evalD (2 ^ n) ds : Nat) : Int) ≤ n * (ds.length - 1) := fun hb => by
      have h5 := PySem.intBits_le_iff.mp hb
      rw [Int.natAbs_natCast] at h5
      rw [← Nat.pow_mul, Nat.div_eq_of_lt h5] at h3
      exact absurd h3 (by decide)
    obtain ⟨m, hm⟩ : ∃ m, ds.length = m + 1 := ⟨ds.length - 1, by have := List.length_pos_iff.mpr he; omega⟩
    rw [hm] at h2 h4 ⊢
    rw [Nat.add_sub_cancel] at h4
    rw [Nat.mul_add, Nat.mul_one] at h2
    refine Nat.div_eq_of_lt_le ?_ ?_
    · rw [Nat.add_mul, Nat.mul_comm]; omega
    · rw [Nat.add_mul, Nat.add_mul, Nat.mul_comm m n]; omega
theorem count_snoc {n : Nat} (hn : 0 < n) {a : List Nat} {x : Nat} (h : ∀ d ∈ a ++ [x], d < 2 ^ n) (hx : 0 < x) : (Builtin.Int.intBits ((evalD (2 ^ n) (a ++ [x]) : Nat) : Int) + n - 1) / n = (a ++ [x]).length := by
  refine count_eval hn h fun _ => ?_
  have e := (evalD_cut (Nat.pow_pos (by decide : 0 < 2)) (P := 2 ^ n) (b := [x]) fun d hd => h d (List.mem_append_left _ hd)).1
  rw [show (a ++ [x]).length - 1 = a.length by rw [List.length_append, List.length_singleton]; rfl, e, evalD_cons]
  exact Nat.lt_of_lt_of_le hx (Nat.le_add_right _ _)
/-- the counts, as natural numbers -/
def dT (t : List Nat) (v c : Nat) : Nat := (cT t v c).toNat
section
variable {t : List Nat} (ht : TreeOk t) (hl : t.length ≤ 6) {v : Nat} (hv : v ≤ t.length)
include ht hl hv
theorem dT_cast (c : Nat) : ((dT t v c : Nat) : Int) = cT t v c := Int.toNat_of_nonneg (cT_bound ht hl hv c).1
theorem dT_le (c : Nat) : dT t v c ≤ 6 ^ c := by
  have h := (cT_bound ht hl hv c).2
  rw [← dT_cast ht hl hv c] at h
  exact_mod_cast h
theorem dT_lt {c : Nat} (hc : c ≤ 8) {n : Nat} (hn : 32 ≤ n) : dT t v c < 2 ^ n := by
  have h1 := dT_le ht hl hv c
  have h2 : 6 ^ c ≤ 6 ^ 8 := Nat.pow_le_pow_right (by decide) hc
  have h3 : 2 ^ 32 ≤ 2 ^ n := Nat.pow_le_pow_right (by decide) hn
  have h4 : 6 ^ 8 < 2 ^ 32 := by decide
  omega
omit ht hl in
theorem dT_zero : dT t v 0 = 1 := by unfold dT; rw [cT_zero hv]; rfl
end
theorem adjR_ge {ts : List (Nat × Nat)} {s : Nat → Rat} (hs : ∀ w, 0 ≤ s w) {p : Nat × Nat} (hp : p ∈ ts) : s p.2 ≤ adjR ts s p.1 ∧ s p.1 ≤ adjR ts s p.2 := by
  induction ts with
  | nil => cases hp
  | cons q l ih =>
    have e : ∀ w, adjR (q :: l) s w = ((if w = q.1 then s q.2 else 0) + (if w = q.2 then s q.1 else 0)) + adjR l s w := fun w => by unfold adjR; rw [List.map_cons, List.sum_cons]
    rw [e, e]
    have n1 := adjR_nonneg l hs p.1
    have n2 := adjR_nonneg l hs p.2
    have a1 := hs q.1
    have a2 := hs q.2
    rcases List.mem_cons.mp hp with rfl | hp
    · constructor
      · rw [if_pos rfl]; split <;> grind
      · rw [if_pos (rfl : p.2 = p.2)]; split <;> grind
    · have i := ih hp
      constructor
      · split <;> split <;> grind
      · split <;> split <;> grind
theorem TieL.first {v : Nat} {ins : List Nat} {ts : List (Nat × Nat)} (h : TieL v ins ts) : ts = [] ∧ ins = [v] ∨ ∃ lo, (lo, v) ∈ ts := by
  induction h with
  | nil => exact .inl ⟨rfl, rfl⟩
  | snoc lo up h a b ih =>
    rcases ih with ⟨e1, e2⟩ | ⟨lo', h'⟩
    · subst e1 e2
      rw [List.mem_singleton.mp a]
      exact .inr ⟨lo, by simp⟩
    · exact .inr ⟨lo', List.mem_append_left _ h'⟩
theorem uW_up {v : Nat} {ts : List (Nat × Nat)} {lo : Nat} (h : (lo, v) ∈ ts) (n : Nat) : uW v ts n v ≤ uW v ts (n + 2) v := by
  have h1 := (adjR_ge (uW_nonneg v ts n) h).1
  have h2 := (adjR_ge (uW_nonneg v ts (n + 1)) h).2
  exact Rat.le_trans h1 h2
section
variable {t : List Nat} (ht : TreeOk t) (hl : t.length ≤ 6) {v : Nat} (hv : v ≤ t.length)
include ht hl hv
/-- the walks grow, or there are none -/
theorem dT_grow : (∀ c, dT t v (c + 1) = 0) ∨ ∀ c, 0 < dT t v c := by
  obtain ⟨h1, _⟩ := ties_tieL ht (v := v) t.length (Nat.le_refl _)
  rcases h1.first with ⟨e, _⟩ | ⟨lo, h⟩
  · refine .inl fun c => ?_
    have h2 := cT_uW ht hv (c + 1)
    rw [e] at h2
    have h3 : uW v [] (2 * (c + 1)) v = 0 := rfl
    rw [h3] at h2
    have : cT t v (c + 1) = 0 := by exact_mod_cast h2
    unfold dT; rw [this]; rfl
  · refine .inr fun c => ?_
    induction c with
    | zero => rw [dT_zero hv]; decide
    | succ c ih =>
      have h2 := uW_up h (2 * c)
      have e : 2 * c + 2 = 2 * (c + 1) := by omega
      rw [e, ← cT_uW ht hv, ← cT_uW ht hv] at h2
      have h3 : cT t v c ≤ cT t v (c + 1) := Rat.intCast_le_intCast.mp h2
      rw [← dT_cast ht hl hv c, ← dT_cast ht hl hv (c + 1)] at h3
      omega
theorem dueT_eq : dueT t v = ([dT t v 4, dT t v 3, dT t v 2, dT t v 1, dT t v 0].map Int.ofNat, if dT t v 1 = 0 then [] else [dT t v 8, dT t v 7, dT t v 6, dT t v 5].map Int.ofNat) := by
  unfold dueT
  rw [walksT_eq hv]
  simp only [← dT_cast ht hl hv]
  simp only [List.take_succ_cons, List.take_zero, List.drop_succ_cons, List.drop_zero, List.reverse_cons, List.reverse_nil, List.nil_append, List.cons_append, List.map_cons, List.map_nil, List.getD_cons_succ, List.getD_cons_zero]
  congr 1
  by_cases h : dT t v 1 = 0
  · rw [if_pos h, if_pos (by rw [h]; rfl)]
  · rw [if_neg h, if_neg (by omega)]; rfl
/-- the law's two numbers' digits -/
theorem digits_eq {n C : Nat} (hn : 32 ≤ n) (hC : C = evalD (2 ^ n) ([dT t v 8, dT t v 7, dT t v 6, dT t v 5] ++ [dT t v 4, dT t v 3, dT t v 2, dT t v 1, dT t v 0])) :
    dg (C / (2 ^ n) ^ 4) n ((Builtin.Int.intBits ((C / (2 ^ n) ^ 4 : Nat) : Int) + n - 1) / n) = (dueT t v).1 ∧ dg (C % (2 ^ n) ^ 4) n ((Builtin.Int.intBits ((C % (2 ^ n) ^ 4 : Nat) : Int) + n - 1) / n) = (dueT t v).2 := by
  have hP : 0 < 2 ^ n := Nat.pow_pos (by decide)
  have d := fun (c : Nat) (hc : c ≤ 8) => dT_lt ht hl hv hc hn
  have da : ∀ x ∈ [dT t v 8, dT t v 7, dT t v 6, dT t v 5], x < 2 ^ n := by
    intro x hx
    simp only [List.mem_cons, List.not_mem_nil, or_false] at hx
    rcases hx with rfl | rfl | rfl | rfl <;> exact d _ (by decide)
  have db : ∀ x ∈ [dT t v 4, dT t v 3, dT t v 2, dT t v 1, dT t v 0], x < 2 ^ n := by
    intro x hx
    simp only [List.mem_cons, List.not_mem_nil, or_false] at hx
    rcases hx with rfl | rfl | rfl | rfl | rfl <;> exact d _ (by decide)
  obtain ⟨c1, c2⟩ := evalD_cut hP da (b := [dT t v 4, dT t v 3, dT t v 2, dT t v 1, dT t v 0])
  rw [← hC] at c1 c2
  have c1' : C / (2 ^ n) ^ 4 = evalD (2 ^ n) [dT t v 4, dT t v 3, dT t v 2, dT t v 1, dT t v 0] := c1
  have c2' : C % (2 ^ n) ^ 4 = evalD (2 ^ n) [dT t v 8, dT t v 7, dT t v 6, dT t v 5] := c2
  rw [c1', c2', dueT_eq ht hl hv]
  constructor
  · have h1 := count_snoc (n := n) (by omega) (a := [dT t v 4, dT t v 3, dT t v 2, dT t v 1]) (x := dT t v 0) db (by rw [dT_zero hv]; decide)
    have h2 := dg_eval (n := n) db
    exact (congrArg _ h1).trans h2
  · rcases dT_grow ht hl hv with z | z
    · rw [if_pos (z 0), z 7, z 6, z 5, z 4]
      have : evalD (2 ^ n) [0, 0, 0, 0] = evalD (2 ^ n) [] := by simp [evalD]
      rw [this, count_eval (by omega) (fun _ h => absurd h List.not_mem_nil) (fun h => absurd rfl h), dg_eval (fun _ h => absurd h List.not_mem_nil)]
      rfl
    · rw [if_neg (by have := z 1; omega)]
      have h1 := count_snoc (n := n) (by omega) (a := [dT t v 8, dT t v 7, dT t v 6]) (x := dT t v 5) da (z 5)
      have h2 := dg_eval (n := n) da
      exact (congrArg _ h1).trans h2
end
end

section
open PySem PySem.W PyProof.Rows PySem.Calls
set_option autoImplicit false
theorem ties_in {t : List Nat} {v : Nat} {w : Nat} : ∀ k, w ∈ (tiesT t v (k + 1)).1 → w ≠ k + 1 → w ∈ (tiesT t v k).1 := fun k h hw => by
  rw [tiesT_succ] at h
  unfold tieStep at h
  split at h
  · rcases List.mem_append.mp h with h | h
    · exact h
    · exact absurd (List.mem_singleton.mp h) hw
  · exact h
theorem ties_back {t : List Nat} {v w k : Nat} (hw : w ≤ k) : ∀ m, w ∈ (tiesT t v (k + m)).1 → w ∈ (tiesT t v k).1
  | 0, h => h
  | m + 1, h => ties_back hw m (ties_in _ h (by omega))
/-- the weights of those in w, both ways -/
theorem kid_sum {t : List Nat} (ht : TreeOk t) {v w : Nat} {D : List Nat} {W : Nat → Rat} (hD : ∀ x, x ≤ t.length → x ∈ D) (hw : w ∈ (tiesT t v t.length).1) : kidW (tiesT t v t.length).2 W w = KS t D W w := by
  have key : ∀ k, k ≤ t.length → kidW (tiesT t v k).2 W w = ((List.range k).map fun k => if t.getD k 0 = w ∧ (k + 1) ∈ D then W (k + 1) else 0).sum := by
    intro k
    induction k with
    | zero => intro _; rfl
    | succ k ih =>
      intro hk
      rw [List.range_succ, List.map_append, sumR_app, ← ih (by omega), tiesT_succ]
      simp only [List.map_cons, List.map_nil, List.sum_cons, List.sum_nil]
      have hm : (k + 1) ∈ D := hD _ hk
      unfold tieStep
      split
      · rename_i hc
        rw [kidW_snoc]
        by_cases e : w = t.getD k 0
        · rw [if_pos e, if_pos ⟨e.symm, hm⟩]; grind
        · rw [if_neg e, if_neg (fun hh => e hh.1.symm)]; grind
      · rename_i hc
        have e : ¬ t.getD k 0 = w := fun e => by
          have h1 : t[k]? = some (t.getD k 0) := by rw [List.getD_eq_getElem?_getD, List.getElem?_eq_getElem (by omega)]; rfl
          have h2 := ht _ _ h1
          rw [e] at h2
          obtain ⟨m, hm⟩ : ∃ m, t.length = k + m := ⟨t.length - k, by omega⟩
          rw [hm] at hw
          have := ties_back h2 m hw
          rw [← e] at this
          exact hc (by simpa using this)
        rw [if_neg (fun hh => e hh.1)]; grind
  exact key _ (Nat.le_refl _)
def fstN (B : Nat) (s : PS) (v : Nat) : Nat := s.tp v * B ^ 4 / s.lw v
def sndN (B : Nat) (s : PS) (v : Nat) : Nat := s.tp v * B ^ 4 % s.lw v * B ^ 4 / s.lw v
def dgN (x n : Nat) : List Int := dg x n ((Builtin.Int.intBits (x : Int) + n - 1) / n)
/-- the plain law: the digits of the law's two quotients are what is due -/
theorem plain_law {t : List Nat} (ht : TreeOk t) (hl : t.length ≤ 6) {n : Nat} (hn : 32 ≤ n) {pre : List Nat} (hs : SeqOk t pre) (hall : ∀ x, x ≤ t.length → x ∈ pre) {v : Nat} (hv : v ≤ t.length) :
    (dgN (fstN (2 ^ n) (numS t (2 ^ n) pre) v) n, dgN (sndN (2 ^ n) (numS t (2 ^ n) pre) v) n) = dueT t v := by
  have hB : 4294967296 ≤ 2 ^ n := Nat.le_trans (by decide : 4294967296 ≤ 2 ^ 32) (Nat.pow_le_pow_right (by decide) hn)
  obtain ⟨iv, _⟩ := numS_inv ht hl hB pre.length pre rfl hs
  obtain ⟨h1, h2⟩ := ties_tieL ht (v := v) t.length (Nat.le_refl _)
  obtain ⟨par, hp⟩ := par_ex h1
  have hle : ∀ w ∈ (tiesT t v t.length).1, w ≤ t.length := fun w hw => by have := (h2 w hw).2; omega
  generalize numS t (2 ^ n) pre = s at iv
  have m := tree_main (P := ((2 ^ n : Nat) : Rat)) (W := s.W) h1 hp (Nat.le_trans (ties_len t v _) hl) (by exact_mod_cast hB)
    (fun w hw => by rw [kid_sum ht hall hw]; exact (iv.done w (hall w (hle w hw))).2.2.2.1)
    (fun w hw => ⟨(iv.done w (hall w (hle w hw))).2.1, (iv.done w (hall w (hle w hw))).2.2.1⟩)
  have hlow := (iv.done v (hall v hv)).1
  obtain ⟨C, hC⟩ : ∃ C, C = evalD (2 ^ n) ([dT t v 8, dT t v 7, dT t v 6, dT t v 5] ++ [dT t v 4, dT t v 3, dT t v 2, dT t v 1, dT t v 0]) := ⟨_, rfl⟩
  have hev : evP v (tiesT t v t.length).2 ((2 ^ n : Nat) : Rat) 8 v = ((C : Nat) : Rat) := by
    have h3 := evP_cT ht hv ((2 ^ n : Nat) : Int)
    have e1 : (((2 ^ n : Nat) : Int) : Rat) = ((2 ^ n : Nat) : Rat) := by exact Rat.intCast_natCast _
    rw [e1] at h3
    rw [h3]
    have e2 : ((C : Nat) : Rat) = (((C : Nat) : Int) : Rat) := (Rat.intCast_natCast _).symm
    rw [e2, hC]
    congr 1
    simp only [← dT_cast ht hl hv]
    generalize 2 ^ n = P
    simp only [evalD, List.cons_append, List.nil_append, List.foldr_cons, List.foldr_nil, Int.natCast_add, Int.natCast_mul]
    grind
  rw [hev] at m
  have hW : s.W v * ((s.lw v : Nat) : Rat) = ((s.tp v : Nat) : Rat) := by
    unfold PS.W
    have l0 : (0 : Rat) < ((s.lw v : Nat) : Rat) := by exact_mod_cast hlow
    rw [Rat.div_mul_cancel (by grind)]
  have hfl := floor_of (P := 2 ^ n) hlow hW m.1 m.2
  have hP4 : 0 < (2 ^ n) ^ 4 := Nat.pow_pos (Nat.pow_pos (by decide))
  obtain ⟨t1, t2⟩ := two_div (top := s.tp v) hlow hP4
  have e8 : (2 ^ n) ^ 4 * (2 ^ n) ^ 4 = (2 ^ n) ^ 8 := by rw [← Nat.pow_add]
  rw [e8, hfl] at t1 t2
  obtain ⟨d1, d2⟩ := digits_eq ht hl hv hn hC
  unfold dgN fstN sndN
  rw [t1, t2, d1, d2]
theorem bits_ge {x m : Nat} (h : 2 ^ m ≤ x) : m + 1 ≤ Builtin.Int.intBits (x : Int) := by
  refine Nat.lt_of_not_le fun hb => ?_
  have := PySem.intBits_le_iff.mp hb
  rw [Int.natAbs_natCast] at this
  omega
theorem cnt_le {a n m : Nat} (ha : a < 2 ^ m) (hm : m ≤ 1280) (hn : 32 ≤ n) : (Builtin.Int.intBits (a : Int) + n - 1) / n ≤ 80 := by
  have h := bits_le ha
  refine Nat.le_of_lt_succ (Nat.div_lt_of_lt_mul ?_)
  omega
/-- what the walk asks of the numbers at a folder's turn -/
structure StepOk (wd top ov low : Nat) : Prop where
  lt : ov < top
  pos : 0 < low
  b1 : Builtin.Int.intBits (low : Int) ≤ 4000
  c1 : (Builtin.Int.intBits ((top * (2 ^ wd) ^ 4 : Nat) : Int) + Builtin.Int.intBits (low : Int) - 1) / Builtin.Int.intBits (low : Int) ≤ 80
  c2 : (Builtin.Int.intBits ((top * (2 ^ wd) ^ 4 % low * (2 ^ wd) ^ 4 : Nat) : Int) + Builtin.Int.intBits (low : Int) - 1) / Builtin.Int.intBits (low : Int) ≤ 80
  bl : Builtin.Int.intBits (low : Int) ≤ 2000
  bt : Builtin.Int.intBits (top : Int) ≤ 2000
  bp : Builtin.Int.intBits ((2 ^ wd : Nat) : Int) ≤ 1000
  bp4 : Builtin.Int.intBits (((2 ^ wd) ^ 4 : Nat) : Int) ≤ 2000
  br : Builtin.Int.intBits ((top * (2 ^ wd) ^ 4 % low : Nat) : Int) ≤ 2000
  d1 : (Builtin.Int.intBits ((top * (2 ^ wd) ^ 4 / low : Nat) : Int) + wd - 1) / wd ≤ 80
  d2 : (Builtin.Int.intBits ((top * (2 ^ wd) ^ 4 % low * (2 ^ wd) ^ 4 / low : Nat) : Int) + wd - 1) / wd ≤ 80
theorem turn_ok {t : List Nat} (ht : TreeOk t) (hl : t.length ≤ 6) {n : Nat} (hn : 32 ≤ n) (hn2 : n ≤ 64) {pre : List Nat} (hs : SeqOk t pre) {v : Nat} (g : Good t pre v) (hx : ∀ w, (exS t pre).getD w 0 ≤ 6) :
    StepOk n ((numS t (2 ^ n) pre).un v * 2 ^ n) ((numS t (2 ^ n) pre).ov v) ((numS t (2 ^ n) pre).un v * 2 ^ n - (numS t (2 ^ n) pre).ov v) := by
  have hB : 4294967296 ≤ 2 ^ n := Nat.le_trans (by decide : 4294967296 ≤ 2 ^ 32) (Nat.pow_le_pow_right (by decide) hn)
  obtain ⟨iv, ie⟩ := numS_inv ht hl hB pre.length pre rfl hs
  obtain ⟨_, h1, h2, h3⟩ := procS_inv ht hl hB iv g
  have h4 := ie v g.le
  generalize (numS t (2 ^ n) pre).un v = u at *
  generalize (numS t (2 ^ n) pre).ov v = o at *
  obtain ⟨a, ha⟩ : ∃ a, a = 384 := ⟨_, rfl⟩
  obtain ⟨b, hb⟩ : ∃ b, b = 64 := ⟨_, rfl⟩
  obtain ⟨c, hc⟩ : ∃ c, c = 256 := ⟨_, rfl⟩
  obtain ⟨two, h2e⟩ : ∃ two, two = 2 := ⟨_, rfl⟩
  have h5 : u ≤ 2 ^ a := Nat.le_trans h4 (by
    rw [← Nat.pow_mul]
    refine Nat.pow_le_pow_right (by decide) ?_
    rw [ha]
    exact Nat.mul_le_mul hn2 (hx v))
  have hp64 : 2 ^ n ≤ 2 ^ b := Nat.pow_le_pow_right (by decide) (by omega)
  have h6 : u * 2 ^ n ≤ 2 ^ (a + b) := by rw [Nat.pow_add]; exact Nat.mul_le_mul h5 hp64
  obtain ⟨top, et⟩ : ∃ top, top = u * 2 ^ n := ⟨_, rfl⟩
  rw [← et] at h1 h2 h3 h6 ⊢
  obtain ⟨low, el⟩ : ∃ low, low = top - o := ⟨_, rfl⟩
  rw [← el] at h2 h3 ⊢
  have hll : low ≤ 2 ^ (a + b) := by omega
  have h44 : (2 ^ n) ^ 4 ≤ 2 ^ c := by
    rw [← Nat.pow_mul]; exact Nat.pow_le_pow_right (by decide) (by omega)
  have bl := bits_ge (x := low) (m := 31) h3
  have p448 : (2 : Nat) ^ (a + b) < 2 ^ (a + b + 1) := Nat.pow_lt_pow_right (by decide) (by omega)
  have p704 : (2 : Nat) ^ (a + b) * 2 ^ c < 2 ^ (a + b + c + 1) := by rw [← Nat.pow_add]; exact Nat.pow_lt_pow_right (by decide) (by omega)
  have p258 : two * (2 : Nat) ^ c < 2 ^ (c + 2) := by
    have : (2 : Nat) ^ (c + 2) = 2 ^ c * 4 := by rw [Nat.pow_add]
    have : 0 < (2 : Nat) ^ c := Nat.pow_pos (by decide)
    rw [h2e]
    omega
  rw [← h2e] at h2
  have q4 : (2 ^ n) ^ 4 = 2 ^ (n * 4) := (Nat.pow_mul ..).symm
  rw [q4] at h44
  have a1 : top * 2 ^ (n * 4) < 2 ^ (a + b + c + 1) := Nat.lt_of_le_of_lt (Nat.mul_le_mul h6 h44) p704
  have hr : top * 2 ^ (n * 4) % low < low := Nat.mod_lt _ (by omega)
  have a2 : top * 2 ^ (n * 4) % low * 2 ^ (n * 4) < 2 ^ (a + b + c + 1) := Nat.lt_of_le_of_lt (Nat.mul_le_mul (Nat.le_trans (Nat.le_of_lt hr) hll) h44) p704
  have a3 : top * 2 ^ (n * 4) / low < 2 ^ (c + 2) := by
    refine Nat.lt_of_le_of_lt ?_ p258
    refine Nat.le_trans (Nat.div_le_div_right (Nat.mul_le_mul_right _ h2)) ?_
    rw [Nat.mul_right_comm, Nat.mul_div_cancel _ (by omega)]
    exact Nat.mul_le_mul_left _ h44
  have a4 : top * 2 ^ (n * 4) % low * 2 ^ (n * 4) / low < 2 ^ (c + 2) := by
    refine Nat.lt_of_le_of_lt (Nat.le_trans (Nat.div_le_div_right (Nat.mul_le_mul_right _ (Nat.le_of_lt hr))) ?_) p258
    rw [Nat.mul_div_cancel_left _ (by omega), h2e]
    have : 0 < (2 : Nat) ^ c := Nat.pow_pos (by decide)
    omega
  rw [← q4] at a1 a2 a3 a4
  have b0 : Builtin.Int.intBits (low : Int) ≤ 1000 := Nat.le_trans (bits_le (Nat.lt_of_le_of_lt hll p448)) (by omega)
  have b1 : Builtin.Int.intBits (top : Int) ≤ 2000 := Nat.le_trans (bits_le (Nat.lt_of_le_of_lt h6 p448)) (by omega)
  have b2 : Builtin.Int.intBits ((2 ^ n : Nat) : Int) ≤ 1000 := Nat.le_trans (bits_le (Nat.pow_lt_pow_right (by decide) (Nat.lt_succ_self n))) (by omega)
  have b3 : Builtin.Int.intBits (((2 ^ n) ^ 4 : Nat) : Int) ≤ 2000 := by
    rw [q4]
    exact Nat.le_trans (bits_le (Nat.pow_lt_pow_right (by decide) (Nat.lt_succ_self (n * 4)))) (by omega)
  have b4 : Builtin.Int.intBits ((top * (2 ^ n) ^ 4 % low : Nat) : Int) ≤ 2000 := by
    rw [q4]
    exact Nat.le_trans (bits_le (Nat.lt_trans (Nat.lt_of_lt_of_le hr hll) p448)) (by omega)
  exact ⟨h1, by omega, by omega, cnt_le a1 (by omega) bl, cnt_le a2 (by omega) bl, by omega, b1, b2, b3, b4, cnt_le a3 (by omega) hn, cnt_le a4 (by omega) hn⟩
theorem step_small {t : List Nat} (ht : TreeOk t) (hl : t.length ≤ 6) {n : Nat} (hn : 32 ≤ n) (hn2 : n ≤ 64) {pre : List Nat} (hs : SeqOk t pre) (hx : ∀ w, (exS t pre).getD w 0 ≤ 6) {w : Nat} (hw : w ≤ t.length) (hwp : w ∉ pre) :
    Builtin.Int.intBits (((numS t (2 ^ n) pre).un w : Nat) : Int) ≤ 2000 ∧ Builtin.Int.intBits (((numS t (2 ^ n) pre).ov w : Nat) : Int) ≤ 2000 := by
  have hB : 4294967296 ≤ 2 ^ n := Nat.le_trans (by decide : 4294967296 ≤ 2 ^ 32) (Nat.pow_le_pow_right (by decide) hn)
  obtain ⟨iv, ie⟩ := numS_inv ht hl hB pre.length pre rfl hs
  have l := iv.left w hwp
  have kb := (KS_bound (t := t) (D := pre) (W := (numS t (2 ^ n) pre).W) (w := w) fun c hc => ⟨(iv.done c hc).2.1, (iv.done c hc).2.2.1⟩).2
  have h4 := ie w hw
  have hl12 : (t.length : Rat) * 2 ≤ 16 := by
    have : ((t.length : Nat) : Rat) ≤ ((6 : Nat) : Rat) := Rat.natCast_le_natCast.mpr hl
    have : (t.length : Rat) ≤ 6 := this
    grind
  have u1 : (1 : Rat) ≤ ((numS t (2 ^ n) pre).un w : Rat) := by exact_mod_cast l.1
  have ovn : (numS t (2 ^ n) pre).ov w ≤ (numS t (2 ^ n) pre).un w * 16 := by
    have ovb : ((numS t (2 ^ n) pre).ov w : Rat) ≤ ((numS t (2 ^ n) pre).un w : Rat) * 16 := by
      rw [l.2]; exact Rat.mul_le_mul_of_nonneg_left (by grind) (by grind)
    have : (((numS t (2 ^ n) pre).ov w : Nat) : Rat) ≤ (((numS t (2 ^ n) pre).un w * 16 : Nat) : Rat) := by rw [Rat.natCast_mul]; exact ovb
    exact Rat.natCast_le_natCast.mp this
  obtain ⟨a, ha⟩ : ∃ a, a = 384 := ⟨_, rfl⟩
  have h5 : (numS t (2 ^ n) pre).un w ≤ 2 ^ a := Nat.le_trans h4 (by
    rw [← Nat.pow_mul]
    refine Nat.pow_le_pow_right (by decide) ?_
    rw [ha]
    exact Nat.mul_le_mul hn2 (hx w))
  have h6 : (numS t (2 ^ n) pre).un w * 16 ≤ 2 ^ (a + 4) := by rw [Nat.pow_add]; exact Nat.mul_le_mul_right _ h5
  have p1 : (2 : Nat) ^ a < 2 ^ (a + 1) := Nat.pow_lt_pow_right (by decide) (by omega)
  have p2 : (2 : Nat) ^ (a + 4) < 2 ^ (a + 5) := Nat.pow_lt_pow_right (by decide) (by omega)
  exact ⟨Nat.le_trans (bits_le (Nat.lt_of_le_of_lt h5 p1)) (by omega), Nat.le_trans (bits_le (Nat.lt_of_le_of_lt (Nat.le_trans ovn h6) p2)) (by omega)⟩
end

section
open PySem PySem.W PyProof.Rows PySem.Calls
set_option autoImplicit false
def cutR (x : Str) : Str := Txt.slice x none (some (Txt.rfind x (Str.ofString "/") + 1))
def letS (k : Nat) : Str := Txt.item (Str.ofString "abcdef") ((k : Nat) : Int)
/-- all ways of folders whose names are among the first k letters, in their order -/
def allW : Nat → List Str
  | 0 => [Str.ofString "/"]
  | k + 1 => allW k ++ (allW k).map fun x => joinR x (letS k)
def okW (k : Nat) : Bool := (allW k).all fun x => !(allW k).contains (joinR x (letS k)) && (Nat.ble (joinR x (letS k)).length 20 && (Nat.ble 1 (cutR (joinR x (letS k))).length && (Nat.ble (cutR (joinR x (letS k))).length 20 && decide (dirR (cutR (joinR x (letS k))) = x))))
theorem okW_all : ∀ k, k < 6 → okW k = true := fun k h => by
  have : k = 0 ∨ k = 1 ∨ k = 2 ∨ k = 3 ∨ k = 4 ∨ k = 5 := by omega
  rcases this with rfl | rfl | rfl | rfl | rfl | rfl <;> decide +kernel
/-- the ways of the folders: no two alike, and dirname tells where each lies -/
structure Ways (t : List Nat) : Prop where
  nd : (wys t).Nodup
  dir : ∀ (k : Nat) (x : Str), k < t.length → (wys t)[k + 1]? = some x → x.length ≤ 20 ∧ 0 < (cutR x).length ∧ (cutR x).length ≤ 20 ∧ (wys t)[t.getD k 0]? = some (dirR (cutR x))
theorem ways_all : ∀ (n : Nat) (t : List Nat), t.length = n → TreeOk t → n ≤ 6 → (∀ x ∈ wys t, x ∈ allW n) ∧ Ways t
  | 0, t, h, _, _ => by
    have e := List.length_eq_zero_iff.mp h
    subst e
    exact ⟨fun x hx => hx, ⟨by simp [wys], fun k x hk => absurd hk (Nat.not_lt_zero _)⟩⟩
  | n + 1, t, h, ht, h6 => by
    have hne : t ≠ [] := fun e => by rw [e] at h; cases h
    have e := List.dropLast_concat_getLast hne
    have h1 : t.dropLast.length = n := by rw [List.length_dropLast]; omega
    have h2 : TreeOk t.dropLast := fun i a hi => by
      have hi2 := (List.getElem?_eq_some_iff.mp hi).1
      refine ht i a ?_
      rw [← e, List.getElem?_append_left hi2]; exact hi
    have h4 : t.getLast hne ≤ n := ht n _ (by rw [← List.getLast?_eq_some_getLast hne, List.getLast?_eq_getElem?]; congr 1; omega)
    obtain ⟨i1, i2⟩ := ways_all n _ h1 h2 (by omega)
    generalize t.getLast hne = a at e h4
    generalize t.dropLast = t0 at e h1 h2 i1 i2
    subst e
    have hl := wys_len t0
    obtain ⟨y, hy⟩ : ∃ y, (wys t0)[a]? = some y := ⟨_, List.getElem?_eq_getElem (by omega)⟩
    have ew : wys (t0 ++ [a]) = wys t0 ++ [joinR y (letS n)] := by
      rw [wys_snoc]; unfold wyAdd letS
      rw [List.getD_eq_getElem?_getD, hy, hl, h1]; rfl
    have hyW := i1 y (List.mem_of_getElem? hy)
    have ok := List.all_eq_true.mp (okW_all n (by omega)) y hyW
    simp only [Bool.and_eq_true, Bool.not_eq_true', Nat.ble_eq, decide_eq_true_eq, List.contains_eq_mem, decide_eq_false_iff_not] at ok
    obtain ⟨o1, o2, o3, o4, o5⟩ := ok
    refine ⟨fun x hx => ?_, ⟨?_, fun k x hk hx => ?_⟩⟩
    · rw [ew] at hx
      show x ∈ allW n ++ _
      rcases List.mem_append.mp hx with hx | hx
      · exact List.mem_append_left _ (i1 x hx)
      · rw [List.mem_singleton.mp hx]; exact List.mem_append_right _ (List.mem_map_of_mem hyW)
    · rw [ew]
      refine List.nodup_append.mpr ⟨i2.nd, by simp, fun p hp q hq e => ?_⟩
      rw [List.mem_singleton.mp hq] at e
      exact o1 (e ▸ i1 p hp)
    · rw [ew] at hx ⊢
      rw [List.length_append, List.length_singleton] at hk
      by_cases hkn : k < t0.length
      · rw [List.getElem?_append_left (by omega)] at hx
        obtain ⟨p1, p2, p3, p4⟩ := i2.dir k x hkn hx
        have e2 : (t0 ++ [a]).getD k 0 = t0.getD k 0 := by rw [List.getD_eq_getElem?_getD, List.getElem?_append_left hkn, ← List.getD_eq_getElem?_getD]
        have hlt := (List.getElem?_eq_some_iff.mp p4).1
        rw [e2, List.getElem?_append_left hlt]
        exact ⟨p1, p2, p3, p4⟩
      · obtain rfl : k = t0.length := by omega
        have e2 : (t0 ++ [a]).getD t0.length 0 = a := by rw [List.getD_eq_getElem?_getD, List.getElem?_append_right (Nat.le_refl _), Nat.sub_self]; rfl
        rw [List.getElem?_append_right (by omega), show t0.length + 1 - (wys t0).length = 0 by omega] at hx
        cases Option.some.inj hx
        rw [e2, List.getElem?_append_left (by omega), hy, o5]
        exact ⟨o2, o3, o4, rfl⟩
theorem ways_ok {t : List Nat} (ht : TreeOk t) (h6 : t.length ≤ 6) : Ways t := (ways_all _ t rfl ht h6).2
end

section
open PySem PySem.W PyProof.Rows PySem.Calls
section
variable {prog : Program} {w : World} {A : Around} {E : Value → Shared → Prop} {s : Shared} {Q : Value → Shared → Prop} {a b : Nat} {t u : Tok}
theorem mul_nat (hm : IntMulOk (a : Int) (b : Int)) (h : Q (.int ((a * b : Nat) : Int) s.toks) { s with toks := s.toks + 1 }) : wpAny (model prog w) A (binaryOp .Mult (.int (a : Int) t) (.int (b : Int) u)) Q E s :=
  PyProof.Rows.mul_int (by rw [← Int.natCast_mul]; exact h) hm
theorem add_nat (h : Q (.int ((a + b : Nat) : Int) s.toks) { s with toks := s.toks + 1 }) : wpAny (model prog w) A (binaryOp .Add (.int (a : Int) t) (.int (b : Int) u)) Q E s :=
  PyProof.Rows.add_int (by rw [← Int.natCast_add]; exact h)
theorem sub_nat (hm : b ≤ a) (h : Q (.int ((a - b : Nat) : Int) s.toks) { s with toks := s.toks + 1 }) : wpAny (model prog w) A (binaryOp .Sub (.int (a : Int) t) (.int (b : Int) u)) Q E s :=
  PyProof.Rows.sub_int (by rw [← Int.ofNat_sub hm]; exact h)
theorem pow4_nat (hm : Builtin.Int.intBits (a : Int) ≤ 1000) (h : Q (.int ((a ^ 4 : Nat) : Int) s.toks) { s with toks := s.toks + 1 }) : wpAny (model prog w) A (binaryOp .Pow (.int (a : Int) t) (.int 4 u)) Q E s :=
  PyProof.Rows.pow_int (by decide) (by omega) (by rw [show (4 : Int).toNat = 4 from rfl, ← Int.natCast_pow]; exact h)
theorem lshift1_nat (hm : b ≤ 1000) (h : Q (.int ((2 ^ b : Nat) : Int) s.toks) { s with toks := s.toks + 1 }) : wpAny (model prog w) A (binaryOp .LShift (.int 1 t) (.int (b : Int) u)) Q E s :=
  PyProof.Rows.lshift_int (Int.natCast_nonneg _) (by
    have : Builtin.Int.intBits 1 ≤ 64 := by decide
    omega) (by
      have e : ((2 ^ b : Nat) : Int) = 2 ^ b := by simp
      rw [Int.toNat_natCast, Int.one_mul, ← e]; exact h)
theorem mulok_nat (ha : Builtin.Int.intBits (a : Int) ≤ 2000) (hb : Builtin.Int.intBits (b : Int) ≤ 2000) : IntMulOk (a : Int) (b : Int) := IntMulOk.of_le ha hb (by decide)
end
theorem valueAt_stored (kvs : List (Str × Value)) (y z : Str) (x : Value) : valueAt (stored kvs y x) z = if y = z then some x else valueAt kvs z := by
  unfold stored
  split
  · rename_i hc
    induction kvs with
    | nil => simp at hc
    | cons q kvs ih =>
      rw [List.map_cons]
      by_cases hq : q.1 = y
      · rw [if_pos hq]
        by_cases hz : y = z
        · rw [valueAt_cons, if_pos (hq.trans hz), if_pos hz]
        · rw [valueAt_cons, if_neg (by rw [hq]; exact hz), if_neg hz, show q = (q.1, q.2) from rfl, valueAt_cons, if_neg (by rw [hq]; exact hz)]
          by_cases hr : (kvs.any fun kv => decide (kv.1 = y)) = true
          · rw [ih hr, if_neg hz]
          · clear ih
            have : (kvs.map fun kv => if kv.1 = y then (kv.1, x) else kv) = kvs := by
              refine (List.map_congr_left fun kv hk => ?_).trans (List.map_id kvs)
              rw [if_neg]; · rfl
              intro e; exact hr (List.any_eq_true.mpr ⟨kv, hk, by simpa using e⟩)
            rw [this]
      · rw [if_neg hq, show q = (q.1, q.2) from rfl, valueAt_cons, valueAt_cons]
        have hr : (kvs.any fun kv => decide (kv.1 = y)) = true := by
          rw [List.any_cons] at hc
          simpa [hq] using hc
        by_cases h1 : q.1 = z
        · rw [if_pos h1, if_pos h1, if_neg (fun e => hq (h1.trans e.symm))]
        · rw [if_neg h1, if_neg h1, ih hr]
  · rename_i hc
    induction kvs with
    | nil => show valueAt [(y, x)] z = _; rw [valueAt_cons]
    | cons q kvs ih =>
      rw [List.any_cons] at hc
      have h1 : ¬ q.1 = y := by simp at hc; exact hc.1
      have h2 : ¬ (kvs.any fun kv => decide (kv.1 = y)) = true := by
        intro e; exact hc (by rw [e]; simp)
      rw [List.cons_append, show q = (q.1, q.2) from rfl, valueAt_cons, valueAt_cons, ih h2]
      by_cases h3 : q.1 = z
      · rw [if_pos h3, if_pos h3, if_neg (fun e => h1 (h3.trans e.symm))]
      · rw [if_neg h3, if_neg h3]
theorem stored_len (kvs : List (Str × Value)) (y : Str) (x : Value) : (stored kvs y x).length ≤ kvs.length + 1 := by
  unfold stored
  split
  · rw [List.length_map]; omega
  · rw [List.length_append]; exact Nat.le_refl _
/-- a dict from ways to numbers: what is not in it has the default -/
def DN (ws : List Str) (kvs : List (Str × Value)) (f : Nat → Nat) (d : Nat) : Prop := ∀ (v : Nat) (y : Str), ws[v]? = some y → (valueAt kvs y = none ∧ f v = d) ∨ ∃ t, valueAt kvs y = some (.int ((f v : Nat) : Int) t)
theorem nodup_idx {ws : List Str} (nd : ws.Nodup) {i j : Nat} {y : Str} (hi : ws[i]? = some y) (hj : ws[j]? = some y) : i = j :=
  (List.getElem?_inj (List.getElem?_eq_some_iff.mp hi).1 nd).mp (hi.trans hj.symm)
theorem DN.set {ws : List Str} (nd : ws.Nodup) {kvs : List (Str × Value)} {f : Nat → Nat} {d : Nat} (h : DN ws kvs f d) {v : Nat} {y : Str} (hy : ws[v]? = some y) (x : Nat) (t : Tok) {g : Nat → Nat} (hg : ∀ c, g c = if c = v then x else f c) : DN ws (stored kvs y (.int ((x : Nat) : Int) t)) g d := by
  intro c z hz
  rw [valueAt_stored, hg]
  by_cases e : c = v
  · subst e
    have : y = z := Option.some.inj (hy.symm.trans hz)
    rw [if_pos this, if_pos rfl]; exact .inr ⟨t, rfl⟩
  · have : ¬ y = z := fun e2 => e (nodup_idx nd hz (e2 ▸ hy))
    rw [if_neg this, if_neg e]; exact h c z hz
theorem DN.congr {ws : List Str} {kvs : List (Str × Value)} {f g : Nat → Nat} {d : Nat} (h : DN ws kvs f d) (e : ∀ c, g c = f c) : DN ws kvs g d := fun v y hy => by rw [e]; exact h v y hy
section
variable {prog : Program} {w : World} {A : Around} {E : Value → Shared → Prop} {s : Shared} {Q : Value → Shared → Prop} {h₀ : Heap} {L a : Addr} {o : Obj} {news : List (Addr × Obj)} {ws : List Str} {kvs : List (Str × Value)} {f : Nat → Nat}
theorem get_dn0 (N : News h₀ L s.heap news) (hp : (a, o) ∈ news) (hd : o.IsDictOf (PySem.strKind prog w) kvs) (lo : (a == sysModules) = false) (dn : DN ws kvs f 0) {v : Nat} {y : Str} {t td : Tok} (hy : ws[v]? = some y) (h : ∀ t', Q (.int ((f v : Nat) : Int) t') { s with toks := s.toks + 1 }) :
    wpAny (model prog w) A (call (.builtin "dict.get") [.ref a, .str y t, .int 0 td]) Q E s := by
  refine kdg_get2 (knd := PySem.strKind prog w) N hp hd lo (strKind_is _ _ _ _) _ rfl ?_
  rcases dn v y hy with ⟨h1, h2⟩ | ⟨t', h1⟩
  · rw [h1]
    have := h td
    rw [h2] at this
    exact this
  · rw [h1]; exact h t'
theorem get_dn1 (N : News h₀ L s.heap news) (hp : (a, o) ∈ news) (hd : o.IsDictOf (PySem.strKind prog w) kvs) (lo : (a == sysModules) = false) (dn : DN ws kvs f 1) {v : Nat} {y : Str} {t td : Tok} (hy : ws[v]? = some y) (h : ∀ t', Q (.int ((f v : Nat) : Int) t') { s with toks := s.toks + 1 }) :
    wpAny (model prog w) A (call (.builtin "dict.get") [.ref a, .str y t, .int 1 td]) Q E s := by
  refine kdg_get2 (knd := PySem.strKind prog w) N hp hd lo (strKind_is _ _ _ _) _ rfl ?_
  rcases dn v y hy with ⟨h1, h2⟩ | ⟨t', h1⟩
  · rw [h1]
    have := h td
    rw [h2] at this
    exact this
  · rw [h1]; exact h t'
end
/-- the two code tables, used -/
inductive TabsU (w : World) : List (Addr × Obj) → Prop
  | mk (c1 c2 : Addr) (o1 o2 : Obj) : (∃ vs t, o1.data = .fields vs ∧ vs[1]? = some (.str qI t)) → (∃ vs t, o2.data = .fields vs ∧ vs[1]? = some (.str qJ t)) →
      TabsU w [(37, tabObj #[rawInt (iSig w).1.2.2.2.line, rawInt (iSig w).1.2.2.2.col, .ref c1]), (44, tabObj #[rawInt (jSig w).1.2.2.2.line, rawInt (jSig w).1.2.2.2.col, .ref c2]), (c1, o1), (c2, o2)]
def TabsL (w : World) (T : List (Addr × Obj)) : Prop := T = [(37, tabObj #[]), (44, tabObj #[])] ∨ TabsU w T
section
variable {prog : Program} {w : World} {A : Around} {E : Value → Shared → Prop} {s : Shared} {p : Program} {loose : List Str} {mean : ExcName → Option Value} {mg mb : Str → Option Value} {H0 : Heap} {g : Heap} {L : Addr} {m : Str → Option Value} {K T : List (Addr × Obj)} {Q : Value → Shared → Prop}
theorem divmod_led (rm : Rm A 110) (G : Gnd w p loose mean mg mb H0) (kg : H0.StaysIn g) (F : Fr g L s.heap m) (N : News g L s.heap (K ++ T)) (hT : TabsL w T) (hKT : ∀ q ∈ K, ∀ r ∈ T, @Ne Nat q.1 r.1)
    {a b : Nat} {ta tb : Tok} (hb : 0 < b) (hb9 : Builtin.Int.intBits (b : Int) ≤ 4000) (hc : (Builtin.Int.intBits (a : Int) + Builtin.Int.intBits (b : Int) - 1) / Builtin.Int.intBits (b : Int) ≤ 80)
    (h : ∀ h' tk r u1 u2 T', Fr g L h' m → News g L h' ((r, { cls := .type "tuple", data := .seq #[.int ((a / b : Nat) : Int) u1, .int ((a % b : Nat) : Int) u2] }) :: (K ++ T')) → TabsU w T' → (∀ q ∈ K, ∀ r ∈ T', @Ne Nat q.1 r.1) → Q (.ref r) { s with heap := h', toks := tk }) :
    wpAny (model prog w) A (call (.ref 56) [.int (a : Int) ta, .int (b : Int) tb] []) Q E s := by
  have k : H0.StaysIn s.heap := fun x o e => F.keep _ _ (kg _ _ e)
  rcases hT with hT | hT
  · subst hT
    have n1 := (N (37, tabObj #[]) (by simp)).1
    have n2 := (N (44, tabObj #[]) (by simp)).1
    refine divmod_fresh rm G k n1 n2 hb hb9 hc fun h' tk r u1 u2 c1 c2 o1 o2 kp T1 T2 l1 l2 lr hr => ?_
    obtain ⟨F1, N1⟩ := after_many (S := [(37, tabObj #[]), (44, tabObj #[])]) (S' := [(37, tabObj #[rawInt (iSig w).1.2.2.2.line, rawInt (iSig w).1.2.2.2.col, .ref c1]), (44, tabObj #[rawInt (jSig w).1.2.2.2.line, rawInt (jSig w).1.2.2.2.col, .ref c2])]) F N (h' := h')
      (fun q hq hm => by
        obtain ⟨z, hz, e⟩ := List.mem_map.mp hm
        exact hKT q hq z hz e.symm)
      (fun q hq => by
        simp only [List.mem_cons, List.not_mem_nil, or_false] at hq
        rcases hq with rfl | rfl <;> simp)
      (fun b' x hb' e => kp b' x (fun e2 => hb' (by simp [e2])) (fun e2 => hb' (by simp [e2])) e)
      (fun q hq => by
        simp only [List.mem_cons, List.not_mem_nil, or_false] at hq
        rcases hq with rfl | rfl
        · exact T1.hP
        · exact T2.hP)
    have Nc2 := newsAdd F N1 T2.hc l2
    have Nc1 := newsAdd F Nc2 T1.hc l1
    have Nr := newsAdd F Nc1 hr lr
    refine h h' tk r u1 u2 _ F1 (news_of Nr ?_) (.mk c1 c2 o1 o2 T1.hd T2.hd) ?_
    · intro q hq
      simp only [List.mem_cons, List.mem_append, List.not_mem_nil, or_false] at hq ⊢
      rcases hq with hq | hq | hq | hq | hq | hq <;> simp [hq]
    · intro q hq z hz
      have hlt := Heap.lt_size (N q (List.mem_append_left _ hq)).1
      simp only [List.mem_cons, List.not_mem_nil, or_false] at hz
      rcases hz with rfl | rfl | rfl | rfl
      · exact hKT q hq (37, tabObj #[]) (by simp)
      · exact hKT q hq (44, tabObj #[]) (by simp)
      · exact Nat.ne_of_lt (Nat.lt_of_lt_of_le hlt l1)
      · exact Nat.ne_of_lt (Nat.lt_of_lt_of_le hlt l2)
  · cases hT with
    | mk c1 c2 o1 o2 d1 d2 =>
    have nn : ∀ q ∈ ([(c1, o1), (c2, o2)] : List (Addr × Obj)), s.heap.get? q.1 = some q.2 ∧ H0.get? q.1 = none := fun q hq => by
      have n := N q (List.mem_append_right _ (.tail _ (.tail _ hq)))
      refine ⟨n.1, ?_⟩
      cases e : H0.get? q.1 with
      | none => rfl
      | some z => have := kg _ _ e; rw [n.2.2] at this; cases this
    have x1 := nn (c1, o1) (by simp)
    have x2 := nn (c2, o2) (by simp)
    refine divmod_used rm G k ⟨(N _ (List.mem_append_right _ (.head _))).1, x1.1, d1, x1.2⟩ ⟨(N _ (List.mem_append_right _ (.tail _ (.head _)))).1, x2.1, d2, x2.2⟩ hb hb9 hc fun h' tk r u1 u2 kp lr hr => ?_
    exact h h' tk r u1 u2 _ (F.keeps kp) (newsAdd F (N.grown kp) hr lr) (.mk c1 c2 o1 o2 d1 d2) hKT
theorem i2d_led (rm : Rm A 100) (G : Gnd w p loose mean mg mb H0) (kg : H0.StaysIn g) (F : Fr g L s.heap m) (N : News g L s.heap (K ++ T)) (hT : TabsU w T)
    {a n : Nat} {ta tn : Tok} (hn : 0 < n) (hc9 : (Builtin.Int.intBits (a : Int) + n - 1) / n ≤ 80) (hn2 : n ≤ 10000)
    (h : ∀ h' tk r vs, Fr g L h' m → News g L h' ((r, W.listOf vs.toArray 0) :: (K ++ T)) → (∀ q ∈ K ++ T, @LT.lt Nat _ q.1 r) → IntsAre vs (dgN a n) → Q (.ref r) { s with heap := h', toks := tk }) :
    wpAny (model prog w) A (call (.ref 42) [.int (a : Int) ta, .int (n : Int) tn] []) Q E s := by
  have k : H0.StaysIn s.heap := fun x o e => F.keep _ _ (kg _ _ e)
  cases hT with
  | mk c1 c2 o1 o2 d1 d2 =>
  have n1 := N (c1, o1) (by simp)
  have x1 : H0.get? c1 = none := by
    cases e : H0.get? c1 with
    | none => rfl
    | some z => have := kg _ _ e; rw [n1.2.2] at this; cases this
  refine int2digits_used rm G k ⟨(N _ (List.mem_append_right _ (.head _))).1, n1.1, d1, x1⟩ hn hc9 hn2 fun h' tk r vs kp lr hr hI => ?_
  exact h h' tk r vs (F.keeps kp) (newsAdd F (N.grown kp) hr lr) (fun q hq => Nat.lt_of_lt_of_le (Heap.lt_size (N q hq).1) lr) hI
end
end

section
open PySem PySem.W PyProof.Rows PySem.Calls
/-- the sorter's nodes behind i adds -/
structure Built (t : List Nat) (i : Nat) (ns : List NR) : Prop where
  len : ns.length = i + 1
  y : ∀ (v : Nat) (r : NR), ns[v]? = some r → (wys t)[v]? = some r.y
  np : ∀ (v : Nat) (r : NR), ns[v]? = some r → r.np = (((t.take i).countP (· == v) : Nat) : Int)
  sv0 : ∀ r : NR, ns[0]? = some r → r.sv = []
  sv : ∀ (u : Nat) (r : NR), ns[u + 1]? = some r → ∃ (rp : NR) (tp : Tok), ns[t.getD u 0]? = some rp ∧ r.sv = [Value.str rp.y tp]
theorem tree_at {t : List Nat} (ht : TreeOk t) {i : Nat} (hi : i < t.length) : t[i]? = some (t.getD i 0) ∧ t.getD i 0 ≤ i := by
  have h1 : t[i]? = some (t.getD i 0) := by rw [List.getD_eq_getElem?_getD, List.getElem?_eq_getElem hi]; rfl
  exact ⟨h1, ht _ _ h1⟩
theorem count_succ {t : List Nat} {i : Nat} (hi : i < t.length) (v : Nat) : (t.take (i + 1)).countP (· == v) = (t.take i).countP (· == v) + if t.getD i 0 = v then 1 else 0 := by
  have h1 : t[i]? = some (t.getD i 0) := by rw [List.getD_eq_getElem?_getD, List.getElem?_eq_getElem hi]; rfl
  rw [List.take_add_one, h1, Option.toList_some, List.countP_append, List.countP_singleton]
  simp
theorem count_none {t : List Nat} (ht : TreeOk t) {i v : Nat} (h : i ≤ v) : (t.take i).countP (· == v) = 0 := by
  rw [List.countP_eq_zero]
  intro a ha
  obtain ⟨k, hk⟩ := List.mem_iff_getElem?.mp ha
  have hki : k < i := by
    have := (List.getElem?_eq_some_iff.mp hk).1
    rw [List.length_take] at this; omega
  rw [List.getElem?_take_of_lt hki] at hk
  have := ht _ _ hk
  simp; omega
theorem Built.first {t : List Nat} (ht : TreeOk t) (hl : 0 < t.length) {r c : NR} {y0 y1 : Str} {tp : Tok} (h0 : (wys t)[0]? = some y0) (h1 : (wys t)[1]? = some y1) (ry : r.y = y0) (rn : r.np = 1) (rs : r.sv = []) (cy : c.y = y1) (cn : c.np = 0) (cs : c.sv = [Value.str y0 tp]) : Built t 1 [r, c] := by
  have t0 : t.getD 0 0 = 0 := by have := (tree_at ht hl).2; omega
  refine ⟨rfl, ?_, ?_, ?_, ?_⟩
  · intro v z hz
    match v with
    | 0 => cases Option.some.inj hz; rw [h0, ry]
    | 1 => cases Option.some.inj hz; rw [h1, cy]
    | v + 2 => simp at hz
  · intro v z hz
    match v with
    | 0 =>
      cases Option.some.inj hz
      rw [show (1 : Nat) = 0 + 1 from rfl, count_succ hl, t0, if_pos rfl, List.take_zero, rn]; rfl
    | 1 =>
      cases Option.some.inj hz
      rw [count_none ht (Nat.le_refl _), cn]; rfl
    | v + 2 => simp at hz
  · intro z hz; cases Option.some.inj hz; exact rs
  · intro u z hz
    match u with
    | 0 => cases Option.some.inj hz; exact ⟨r, tp, by rw [t0]; rfl, by rw [cs, ry]⟩
    | u + 1 => simp at hz
theorem Built.more {t : List Nat} (ht : TreeOk t) {i : Nat} (hi : i < t.length) {ns : List NR} (b : Built t i ns) {r r' c : NR} {yc : Str} {tp : Tok} (hr : ns[t.getD i 0]? = some r) (hk : r'.key = r.key) (hn : r'.np = r.np + 1) (hyc : (wys t)[i + 1]? = some yc) (cy : c.y = yc) (cn : c.np = 0) (cs : c.sv = [Value.str r.y tp]) :
    Built t (i + 1) (ns.set (t.getD i 0) r' ++ [c]) := by
  have hk2 := hk
  simp only [NR.key, Prod.mk.injEq] at hk2
  obtain ⟨_, _, _, ky, _, ks, _⟩ := hk2
  obtain ⟨t1, t2⟩ := tree_at ht hi
  have hlen : (ns.set (t.getD i 0) r').length = i + 1 := by rw [List.length_set, b.len]
  have get : ∀ (v : Nat) (z : NR), (ns.set (t.getD i 0) r' ++ [c])[v]? = some z → (v = i + 1 ∧ z = c) ∨ (v = t.getD i 0 ∧ z = r') ∨ (v ≤ i ∧ v ≠ t.getD i 0 ∧ ns[v]? = some z) := fun v z hz => by
    by_cases hv : v ≤ i
    · rw [List.getElem?_append_left (by omega), List.getElem?_set] at hz
      by_cases e : t.getD i 0 = v
      · rw [if_pos e, if_pos (by rw [b.len]; omega)] at hz
        exact .inr (.inl ⟨e.symm, (Option.some.inj hz).symm⟩)
      · rw [if_neg e] at hz
        exact .inr (.inr ⟨hv, fun q => e q.symm, hz⟩)
    · rw [List.getElem?_append_right (by omega), hlen] at hz
      have h0 : v - (i + 1) = 0 := by
        have := (List.getElem?_eq_some_iff.mp hz).1
        simpa using this
      rw [h0] at hz
      exact .inl ⟨by omega, (Option.some.inj hz).symm⟩
  have put : ∀ (v : Nat) (z : NR), ns[v]? = some z → ∃ z' : NR, (ns.set (t.getD i 0) r' ++ [c])[v]? = some z' ∧ z'.y = z.y := fun v z hz => by
    have hv := (List.getElem?_eq_some_iff.mp hz).1
    rw [List.getElem?_append_left (by rw [List.length_set]; exact hv), List.getElem?_set]
    by_cases e : t.getD i 0 = v
    · rw [if_pos e, if_pos (by omega)]
      refine ⟨r', rfl, ?_⟩
      rw [← e, hr] at hz
      rw [ky, Option.some.inj hz]
    · rw [if_neg e]; exact ⟨z, hz, rfl⟩
  refine ⟨by rw [List.length_append, hlen]; rfl, ?_, ?_, ?_, ?_⟩
  · intro v z hz
    rcases get v z hz with ⟨rfl, rfl⟩ | ⟨rfl, rfl⟩ | ⟨_, _, h⟩
    · rw [cy]; exact hyc
    · rw [ky]; exact b.y _ _ hr
    · exact b.y _ _ h
  · intro v z hz
    rw [count_succ hi]
    rcases get v z hz with ⟨rfl, rfl⟩ | ⟨rfl, rfl⟩ | ⟨_, h1, h⟩
    · rw [cn, count_none ht (by omega), if_neg (by omega)]; rfl
    · rw [hn, b.np _ _ hr, if_pos rfl]; simp
    · rw [if_neg (Ne.symm h1), b.np _ _ h]; rfl
  · intro z hz
    rcases get 0 z hz with ⟨h, _⟩ | ⟨h, rfl⟩ | ⟨_, _, h⟩
    · omega
    · rw [ks]; rw [← h] at hr; exact b.sv0 _ hr
    · exact b.sv0 _ h
  · intro u z hz
    have old : ∀ z0 : NR, ns[u + 1]? = some z0 → z0.sv = z.sv → ∃ (rp : NR) (tp : Tok), (ns.set (t.getD i 0) r' ++ [c])[t.getD u 0]? = some rp ∧ z.sv = [Value.str rp.y tp] := fun z0 h0 e => by
      obtain ⟨rp, tp', h1, h2⟩ := b.sv u z0 h0
      obtain ⟨rp', h3, h4⟩ := put _ _ h1
      exact ⟨rp', tp', h3, by rw [← e, h2, h4]⟩
    rcases get (u + 1) z hz with ⟨h, rfl⟩ | ⟨h, rfl⟩ | ⟨_, _, h⟩
    · obtain rfl : u = i := by omega
      obtain ⟨rp', h3, h4⟩ := put _ _ hr
      exact ⟨rp', tp, h3, by rw [cs, h4]⟩
    · rw [← h] at hr; exact old _ hr ks.symm
    · exact old _ h rfl
theorem Built.ys {t : List Nat} {ns : List NR} (b : Built t t.length ns) : ns.map (·.y) = wys t := by
  apply List.ext_getElem?
  intro v
  rw [List.getElem?_map]
  cases e : ns[v]? with
  | none =>
    have h1 := List.getElem?_eq_none_iff.mp e
    rw [b.len] at h1
    exact (List.getElem?_eq_none (by rw [wys_len]; exact h1)).symm
  | some r => exact (b.y _ _ e).symm
theorem Built.nps {t : List Nat} {ns : List NR} (b : Built t t.length ns) : ns.map (·.np) = startN t := by
  apply List.ext_getElem?
  intro v
  unfold startN
  rw [List.getElem?_map, List.getElem?_map]
  cases e : ns[v]? with
  | none =>
    have h1 := List.getElem?_eq_none_iff.mp e
    rw [b.len] at h1
    rw [List.getElem?_eq_none (by rw [List.length_range]; exact h1)]; rfl
  | some r =>
    have h1 := (List.getElem?_eq_some_iff.mp e).1
    rw [b.len] at h1
    rw [List.getElem?_range h1]
    show some r.np = some _
    rw [b.np _ _ e, List.take_length]
theorem Built.start {t : List Nat} {ns : List NR} (b : Built t t.length ns) : startI ns ns.length = startB (startN t) (t.length + 1) := by
  unfold startI startB
  rw [b.nps, b.len]
theorem news_addL {g h h' : Heap} {L : Addr} {m : Str → Option Value} {E news : List (Addr × Obj)} (F : Fr g L h m) (N : News g L h' news) (e : ∀ q ∈ E, h'.get? q.1 = some q.2) (ge : ∀ q ∈ E, h.get? q.1 = none) : News g L h' (E ++ news) := fun q hq => by
  rcases List.mem_append.mp hq with hq | hq
  · exact newsAddF (news := []) F (fun _ q => nomatch q) (e q hq) (ge q hq) q (.head _)
  · exact N q hq
theorem ent_fresh {h : Heap} {c : NR} (fc : ∀ a ∈ c.as, h.get? a = none) : ∀ q ∈ ent c, h.get? q.1 = none := fun q hq => fc q.1 (by rw [← ent_as]; exact List.mem_map_of_mem hq)
theorem led_first {g h h' : Heap} {L : Addr} {m : Str → Option Value} {K : List (Addr × Obj)} {d : Addr} {o o' : Obj} {r c : NR} (F : Fr g L h m) (N : News g L h (K ++ [(d, o)])) (hK : ∀ q ∈ K, q.1 ≠ d)
    (k : ∀ b z, b ≠ d → h.get? b = some z → h'.get? b = some z) (gd : h'.get? d = some o') (gr : ∀ q ∈ ent r, h'.get? q.1 = some q.2) (gc : ∀ q ∈ ent c, h'.get? q.1 = some q.2) (fr : ∀ a ∈ r.as, h.get? a = none) (fc : ∀ a ∈ c.as, h.get? a = none) (nd : (r.as ++ c.as).Nodup) :
    Fr g L h' m ∧ News g L h' (K ++ (d, o') :: chunk [r, c]) ∧ (d :: addrs [r, c]).Nodup ∧ ∀ q ∈ K, q.1 ∉ d :: addrs [r, c] := by
  obtain ⟨F1, N1⟩ := after_upd (post := []) F N hK (fun _ q => nomatch q) k gd
  have N2 := news_addL F (news_addL F N1 gc (ent_fresh fc)) gr (ent_fresh fr)
  have ea : addrs [r, c] = r.as ++ c.as := by simp [addrs]
  have hx : ∀ q ∈ K ++ [(d, o)], q.1 ∉ addrs [r, c] := fun q hq hm => by
    have h1 := (N q hq).1
    rw [ea] at hm
    rcases List.mem_append.mp hm with hm | hm
    · rw [fr _ hm] at h1; cases h1
    · rw [fc _ hm] at h1; cases h1
  refine ⟨F1, news_of N2 ?_, ?_, ?_⟩
  · intro q hq
    have ec : chunk [r, c] = ent r ++ ent c := by simp [chunk]
    rw [ec] at hq
    simp only [List.mem_append, List.mem_cons, List.not_mem_nil, or_false] at hq ⊢
    rcases hq with hq | hq | hq | hq
    · exact .inr (.inr (.inl hq))
    · exact .inr (.inr (.inr hq))
    · exact .inl hq
    · exact .inr (.inl hq)
  · rw [List.nodup_cons]
    exact ⟨hx (d, o) (by simp), by rw [ea]; exact nd⟩
  · intro q hq hm
    rcases List.mem_cons.mp hm with e | hm
    · exact hK q hq e
    · exact hx q (List.mem_append_left _ hq) hm
theorem led_more {g h h' : Heap} {L : Addr} {m : Str → Option Value} {K : List (Addr × Obj)} {d : Addr} {o o' : Obj} {ns : List NR} {i : Nat} {r r' c : NR} {z : Obj} (F : Fr g L h m) (N : News g L h (K ++ (d, o) :: chunk ns)) (nd : (d :: addrs ns).Nodup) (hK : ∀ q ∈ K, q.1 ∉ d :: addrs ns) (hr : ns[i]? = some r)
    (k : ∀ b z, b ≠ d → b ≠ r.inf → h.get? b = some z → h'.get? b = some z) (gd : h'.get? d = some o') (gi : h'.get? r.inf = some z) (er : ent r' = (r.inf, z) :: (ent r).tail) (ea : r'.as = r.as) (gc : ∀ q ∈ ent c, h'.get? q.1 = some q.2) (fc : ∀ a ∈ c.as, h.get? a = none) (nc : c.as.Nodup) :
    Fr g L h' m ∧ News g L h' (K ++ (d, o') :: chunk (ns.set i r' ++ [c])) ∧ (d :: addrs (ns.set i r' ++ [c])).Nodup ∧ ∀ q ∈ K, q.1 ∉ d :: addrs (ns.set i r' ++ [c]) := by
  rw [List.nodup_cons] at nd
  have am := as_mem hr
  have hdi : d ≠ r.inf := fun e => nd.1 (e ▸ am.1)
  obtain ⟨s1, s2, s3, s4, s5, s6⟩ := nodup_split nd.2 hr
  have mo : ∀ q ∈ ent r ++ chunk (but1 ns i), q ∈ chunk ns := fun q hq => (mem_chunk1 hr q).mpr hq
  obtain ⟨F1, N1⟩ := after_many (K := K ++ ((ent r).tail ++ chunk (but1 ns i))) (S := [(d, o), (r.inf, nObj r.dx r.y r.ty (.int r.np r.tnp) r.sl)]) (S' := [(d, o'), (r.inf, z)]) F (news_of N (fun q hq => by
      simp only [List.mem_append, List.mem_cons, List.not_mem_nil, or_false] at hq ⊢
      rcases hq with (hq | hq | hq) | hq | hq
      · exact .inl hq
      · exact .inr (.inr (mo q (List.mem_append_left _ (List.mem_of_mem_tail hq))))
      · exact .inr (.inr (mo q (List.mem_append_right _ hq)))
      · exact .inr (.inl hq)
      · exact .inr (.inr (mo q (List.mem_append_left _ (by rw [hq]; exact .head _)))))) (h' := h')
    (fun q hq hm => by
      simp only [List.map_cons, List.map_nil, List.mem_cons, List.not_mem_nil, or_false] at hm
      rcases List.mem_append.mp hq with hq | hq
      · rcases hm with e | e
        · exact hK q hq (by rw [e]; exact .head _)
        · exact hK q hq (by rw [e]; exact .tail _ am.1)
      · rcases List.mem_append.mp hq with hq | hq
        · simp only [ent, List.tail_cons, List.mem_cons, List.not_mem_nil, or_false] at hq
          rcases hq with rfl | rfl
          · rcases hm with e | e
            · exact nd.1 (e ▸ am.2.1)
            · exact s1 e.symm
          · rcases hm with e | e
            · exact nd.1 (e ▸ am.2.2)
            · exact s2 e.symm
        · rcases hm with e | e
          · refine nd.1 ?_
            rw [← e, ← chunk_as]
            exact List.mem_map_of_mem (mo q (List.mem_append_right _ hq))
          · exact s4 q hq e)
    (fun q hq => by
      simp only [List.mem_cons, List.not_mem_nil, or_false] at hq
      rcases hq with rfl | rfl <;> simp)
    (fun b' y hb' e => k b' y (fun e2 => hb' (by simp [e2])) (fun e2 => hb' (by simp [e2])) e)
    (fun q hq => by
      simp only [List.mem_cons, List.not_mem_nil, or_false] at hq
      rcases hq with rfl | rfl
      · exact gd
      · exact gi)
  have N2 := news_addL F N1 gc (ent_fresh fc)
  have eas : addrs (ns.set i r' ++ [c]) = addrs ns ++ c.as := by
    rw [addrs_app, set_as hr ea]; simp [addrs]
  have old : ∀ q ∈ K ++ (d, o) :: chunk ns, q.1 ∉ c.as := fun q hq hm => by
    have h1 := (N q hq).1
    rw [fc _ hm] at h1; cases h1
  refine ⟨F1, news_of N2 ?_, ?_, ?_⟩
  · intro q hq
    have hg : (ns.set i r')[i]? = some r' := by
      rw [List.getElem?_set_self (List.getElem?_eq_some_iff.mp hr).1]
    rw [chunk_app, show chunk [c] = ent c by simp [chunk]] at hq
    simp only [List.mem_append, List.mem_cons, List.not_mem_nil, or_false] at hq ⊢
    rcases hq with hq | hq | hq | hq
    · exact .inr (.inl (.inl hq))
    · exact .inr (.inr (.inl hq))
    · have h1 := (mem_chunk1 hg q).mp hq
      rw [but1_set, er] at h1
      simp only [List.mem_append, List.mem_cons] at h1
      rcases h1 with (h1 | h1) | h1
      · exact .inr (.inr (.inr h1))
      · exact .inr (.inl (.inr (.inl h1)))
      · exact .inr (.inl (.inr (.inr h1)))
    · exact .inl hq
  · rw [eas, List.nodup_cons]
    refine ⟨fun hm => ?_, List.nodup_append.mpr ⟨nd.2, nc, fun a ha b hb e => ?_⟩⟩
    · rcases List.mem_append.mp hm with hm | hm
      · exact nd.1 hm
      · exact old (d, o) (List.mem_append_right _ (.head _)) hm
    · rw [← chunk_as] at ha
      obtain ⟨q, hq, e2⟩ := List.mem_map.mp ha
      exact old q (List.mem_append_right _ (.tail _ hq)) (by rw [e2, e]; exact hb)
  · intro q hq hm
    rw [eas] at hm
    rcases List.mem_cons.mp hm with e | hm
    · exact hK q hq (by rw [e]; exact .head _)
    · rcases List.mem_append.mp hm with hm | hm
      · exact hK q hq (.tail _ hm)
      · exact old q (List.mem_append_left _ hq) hm
end

section
open PySem PySem.W PyProof.Rows PySem.Calls
theorem over8 {m m' : Str → Option Value} {x0 x1 x2 x3 x4 x5 x6 x7 : Str} (h : ∀ w, w ≠ x0 → w ≠ x1 → w ≠ x2 → w ≠ x3 → w ≠ x4 → w ≠ x5 → w ≠ x6 → w ≠ x7 → m' w = m w) : m' = fun w => if w = x0 then m' x0 else if w = x1 then m' x1 else if w = x2 then m' x2 else if w = x3 then m' x3 else if w = x4 then m' x4 else if w = x5 then m' x5 else if w = x6 then m' x6 else if w = x7 then m' x7 else m w := by
  funext w
  (repeat' split) <;> first | (rename _ = _ => e; rw [e]) | exact h w (by assumption) (by assumption) (by assumption) (by assumption) (by assumption) (by assumption) (by assumption) (by assumption)

theorem over9 {m m' : Str → Option Value} {x0 x1 x2 x3 x4 x5 x6 x7 x8 : Str} (h : ∀ w, w ≠ x0 → w ≠ x1 → w ≠ x2 → w ≠ x3 → w ≠ x4 → w ≠ x5 → w ≠ x6 → w ≠ x7 → w ≠ x8 → m' w = m w) : m' = fun w => if w = x0 then m' x0 else if w = x1 then m' x1 else if w = x2 then m' x2 else if w = x3 then m' x3 else if w = x4 then m' x4 else if w = x5 then m' x5 else if w = x6 then m' x6 else if w = x7 then m' x7 else if w = x8 then m' x8 else m w := by
  funext w
  (repeat' split) <;> first | (rename _ = _ => e; rw [e]) | exact h w (by assumption) (by assumption) (by assumption) (by assumption) (by assumption) (by assumption) (by assumption) (by assumption) (by assumption)

/-- what a turn of the sorter's while is to show -/
def EndW (Inv : List Int → List Nat → List Nat → Heap → Prop) (np : List Int) (bt pre : List Nat) (s : Shared) (Q : Flow → Shared → Prop) (f : Flow) (s₂ : Shared) : Prop :=
  match f with
  | .ret v => Q (.ret v) s₂
  | .brk => Q .next s₂
  | _ => ∃ h' tk, s₂ = { s with heap := h', toks := tk } ∧ Inv np bt pre h'
theorem whl_run {prog : Program} {w : World} {A : Around} {E : Value → Shared → Prop} {s : Shared} {env : Env} {test : PySem.Expr} {body orelse : List Stmt} {Q : Flow → Shared → Prop} {t : List Nat} (hE : PassesOwn (model prog w) A env E) (Inv : List Int → List Nat → List Nat → Heap → Prop)
    (stop : ∀ np pre h tk, (∀ v, v ≤ t.length → v ∈ pre) → Inv np [] pre h → wpAny (model prog w) A (isTrue test env (eval test env)) (fun b s₂ => WhlIf b False (wpAny (model prog w) A (execs orelse env) Q E s₂)) E { s with heap := h, toks := tk })
    (step : ∀ np bt pre h tk, bt ≠ [] → pre.length + bt.length ≤ 7 →
      (∀ (i v : Nat), bt[i]? = some v → Good t (pre ++ bt.take i) v ∧ (∀ w, (exS t (pre ++ bt.take i)).getD w 0 ≤ 6) ∧ ((bt.take i).foldl (doneS t) (markS np bt, [])).1[v]? = some (-1)) → Inv np bt pre h →
      wpAny (model prog w) A (isTrue test env (eval test env)) (fun b s₂ => WhlIf b (wpAny (model prog w) A (execs body env) (EndW Inv (nextS t np bt).1 (nextS t np bt).2 (pre ++ bt) s Q) E s₂) False) E { s with heap := h, toks := tk })
    {np : List Int} {bt pre : List Nat} (run : Run t np bt pre) : ∀ (h : Heap) (tk : Nat), Inv np bt pre h → ∀ k, WhlRest prog w A E env test body orelse Q k { s with heap := h, toks := tk } := by
  have fin : ∀ (np : List Int) (bt pre : List Nat), (∀ (h : Heap) (tk : Nat), Inv np bt pre h → ∀ k, WhlRest prog w A E env test body orelse Q k { s with heap := h, toks := tk }) →
      ∀ (f : Flow) (s₂ : Shared), EndW Inv np bt pre s Q f s₂ → WhlPost prog w A E env test body orelse Q 0 f s₂ := by
    intro np bt pre ih f s₂ e
    cases f with
    | ret v => exact e
    | brk => exact e
    | next => obtain ⟨h', tk, rfl, i⟩ := e; exact ih h' tk i 0
    | cont => obtain ⟨h', tk, rfl, i⟩ := e; exact ih h' tk i 0
  induction run with
  | stop np pre hall =>
    intro h tk i k
    have h1 := stop np pre h tk hall i
    refine (whl_turn (k := 0) hE (wpAny_mono h1 (fun b s₂ x => ?_) fun _ _ e => e) : WhlRest prog w A E env test body orelse Q 1 _)
    cases b with
    | true => exact (x : False).elim
    | false => exact .no rfl x
  | step np bt pre hne hl hs run ih =>
    intro h tk i k
    have h1 := step np bt pre h tk hne hl hs i
    refine (whl_turn (k := 0) hE (wpAny_mono h1 (fun b s₂ x => ?_) fun _ _ e => e) : WhlRest prog w A E env test body orelse Q 1 _)
    cases b with
    | true => exact .yes rfl (wpAny_mono (show wpAny (model prog w) A (execs body env) (EndW Inv _ _ _ s Q) E s₂ from x) (fun f s₃ y => fin _ _ _ ih f s₃ y) fun _ _ e => e)
    | false => exact (x : False).elim
/-- the rows of the folders that are met -/
def RowsOk (ws : List Str) (kv : List (Str × Value)) (pre : List Nat) (wd : Nat) (sN : PS) (Z : List (Addr × Obj)) : Prop := ∀ (v : Nat) (y : Str), v ∈ pre → ws[v]? = some y →
  ∃ (a l1 l2 : Addr) (vs1 vs2 : List Value), valueAt kv y = some (.ref a) ∧ (a, W.listOf #[.ref l1, .ref l2] 0) ∈ Z ∧ (l1, W.listOf vs1.toArray 0) ∈ Z ∧ (l2, W.listOf vs2.toArray 0) ∈ Z ∧
    IntsAre vs1 (dgN (fstN (2 ^ wd) sN v) wd) ∧ IntsAre vs2 (dgN (sndN (2 ^ wd) sN v) wd)
theorem RowsOk.nil (ws : List Str) (kv : List (Str × Value)) (wd : Nat) (sN : PS) (Z : List (Addr × Obj)) : RowsOk ws kv [] wd sN Z := fun _ _ hv => nomatch hv
theorem RowsOk.step {t : List Nat} {ws : List Str} (nd : ws.Nodup) {kv : List (Str × Value)} {pre : List Nat} {wd : Nat} {sN : PS} {Z : List (Addr × Obj)} (h : RowsOk ws kv pre wd sN Z) {u : Nat} {y : Str} (hy : ws[u]? = some y) (hu : u ∉ pre) {a l1 l2 : Addr} {vs1 vs2 : List Value} {top low : Nat} (et : top = sN.un u * 2 ^ wd) (el : low = sN.un u * 2 ^ wd - sN.ov u)
    (i1 : IntsAre vs1 (dgN (top * (2 ^ wd) ^ 4 / low) wd)) (i2 : IntsAre vs2 (dgN (top * (2 ^ wd) ^ 4 % low * (2 ^ wd) ^ 4 / low) wd)) :
    RowsOk ws (stored kv y (.ref a)) (pre ++ [u]) wd (procS t (2 ^ wd) sN u) ((a, W.listOf #[.ref l1, .ref l2] 0) :: (l2, W.listOf vs2.toArray 0) :: (l1, W.listOf vs1.toArray 0) :: Z) := by
  intro v z hv hz
  by_cases e : v = u
  · subst e
    have : y = z := Option.some.inj (hy.symm.trans hz)
    refine ⟨a, l1, l2, vs1, vs2, by rw [valueAt_stored, if_pos this], .head _, .tail _ (.tail _ (.head _)), .tail _ (.head _), ?_, ?_⟩
    · unfold fstN; rw [procS_tp, procS_lw, if_pos rfl, if_pos rfl, ← el, ← et]; exact i1
    · unfold sndN; rw [procS_tp, procS_lw, if_pos rfl, if_pos rfl, ← el, ← et]; exact i2
  · have hvp : v ∈ pre := by
      rcases List.mem_append.mp hv with hv | hv
      · exact hv
      · exact absurd (List.mem_singleton.mp hv) e
    have hne : ¬ y = z := fun e2 => e (nodup_idx nd hz (e2 ▸ hy))
    obtain ⟨a', m1, m2, w1, w2, h1, h2, h3, h4, h5, h6⟩ := h v z hvp hz
    refine ⟨a', m1, m2, w1, w2, by rw [valueAt_stored, if_neg hne]; exact h1, .tail _ (.tail _ (.tail _ h2)), .tail _ (.tail _ (.tail _ h3)), .tail _ (.tail _ (.tail _ h4)), ?_, ?_⟩
    · unfold fstN at h5 ⊢; rw [procS_tp, procS_lw, if_neg e, if_neg e]; exact h5
    · unfold sndN at h6 ⊢; rw [procS_tp, procS_lw, if_neg e, if_neg e]; exact h6
end

section
open PySem PySem.W PyProof.Rows PySem.Calls
theorem fill_F9 (w : World) : PySem.Challenge.rw_rt0101_01 = PySem.Challenge.rw_rt0101_01 ∨ Mine.hd.heap_1 w.params = [] := by
  k_fill
  exact Or.inl rfl
theorem nm_cons {α : Type} {a b : α} {l : List α} (h : a ≠ b) (t : a ∉ l) : a ∉ b :: l := fun hm => (List.mem_cons.mp hm).elim h t
theorem nm_app {α : Type} {a : α} {b l : List α} (h : a ∉ b) (t : a ∉ l) : a ∉ b ++ l := fun hm => (List.mem_append.mp hm).elim h t
local macro_rules | `(tactic| walk_at "binaryOp LShift int int") => `(tactic| (k_here; refine lshift1_nat (by assumption) ?_))
local macro_rules | `(tactic| walk_at "exec For Name Name cons nil") => `(tactic| (refine stop_it ?_))
local macro_rules | `(tactic| walk_at "exec For Name Subscript cons nil") => `(tactic| (refine stop_it ?_))
local macro_rules | `(tactic| walk_at "exec While") => `(tactic| (refine stop_it ?_))
local macro_rules | `(tactic| walk_at "exec While Call cons nil") => `(tactic| (refine stop_it ?_))
theorem not_in_base {H0 h : Heap} {L : Addr} (k : H0.StaysIn h) (hL : L = h.objs.size) : H0.get? L = none := by
  cases hq : H0.get? L with
  | none => rfl
  | some z => exact absurd (Heap.lt_size (k _ _ hq)) (by rw [hL]; exact Nat.lt_irrefl _)
theorem all_app {P : Addr × Obj → Prop} {a b : List (Addr × Obj)} (ha : ∀ q ∈ a, P q) (hb : ∀ q ∈ b, P q) : ∀ q ∈ a ++ b, P q := fun q hq => (List.mem_append.mp hq).elim (ha q) (hb q)
local macro_rules | `(tactic| walk_at "subscriptTail Name Slice ref ref") => `(tactic| (k_here; refine' kmk_slice_lit ?F ?N ?l ?p ?q ?e ?_ ?s ?t ?z; (case F => k_asm); (case N => k_asm); (case l => kmk_list); (case p => kmk_part); (case q => kmk_part); (case e => assumption); (case s => with_unfolding_all rfl); (case t => kmk_pure); (case z => assumption); intro D' h' F' N' l1))
theorem slice1 (vs : List Value) : (slicePick vs.toArray (some 1) none none).toList = vs.drop 1 := by
  have e : sliceBounds (some 1) none none vs.toArray.size = (((min 1 vs.toArray.size : Nat) : Int), ((vs.toArray.size : Nat) : Int), 1) := by
    simp only [sliceBounds, Option.getD_none, show (1 : Int) > 0 by decide, if_true, if_neg (show ¬ ((1 : Int) < 0) by decide)]
    congr 1
    cases vs.toArray.size with
    | zero => rfl
    | succ n => rw [Nat.min_eq_left (Nat.le_add_left 1 n), show min (1 : Int) ((n + 1 : Nat) : Int) = 1 from Int.min_eq_left (Int.ofNat_le.mpr (Nat.le_add_left 1 n))]; rfl
  rw [kmk_pick_nat _ e]
  show ((vs.drop (min 1 vs.toArray.size)).take (vs.toArray.size - min 1 vs.toArray.size)) = _
  rw [List.size_toArray]
  cases vs with
  | nil => rfl
  | cons v vs =>
    have : min 1 (v :: vs).length = 1 := Nat.min_eq_left (Nat.le_add_left 1 _)
    rw [this, List.take_of_length_le (by simp)]
structure Apart (BA : List Addr) (Z T : List (Addr × Obj)) : Prop where
  z : ∀ q ∈ Z, q.1 ∉ BA
  t : ∀ q ∈ T, q.1 ∉ BA
  zt : ∀ q ∈ Z, ∀ p ∈ T, @Ne Nat q.1 p.1
theorem keys_y {a b : List NR} (h : a.map NR.key = b.map NR.key) : a.map (·.y) = b.map (·.y) := by
  have := congrArg (List.map (fun k : Addr × Addr × Addr × Str × Tok × List Value × Nat => k.2.2.2.1)) h
  rw [List.map_map, List.map_map] at this
  exact this
local macro_rules | `(tactic| walk_at "binaryOp Mult int int") => `(tactic| (k_here; refine mul_nat (by assumption) ?_))
local macro_rules | `(tactic| walk_at "binaryOp Sub int int") => `(tactic| (k_here; refine sub_nat (by assumption) ?_))
local macro_rules | `(tactic| walk_at "binaryOp Add int int") => `(tactic| (k_here; refine add_nat ?_))
local macro_rules | `(tactic| walk_at "binaryOp Pow int int") => `(tactic| (k_here; refine pow4_nat (by assumption) ?_))
local macro_rules | `(tactic| walk_at "call builtin:dict.get") => `(tactic| (k_here; refine get_dn0 (by k_asm) (by k_mem) (by k_asm) (by k_asm) (by assumption) (by assumption) ?_; intro tX0))
local macro_rules | `(tactic| walk_at "call builtin:dict.get") => `(tactic| (k_here; refine get_dn1 (by k_asm) (by k_mem) (by k_asm) (by k_asm) (by assumption) (by assumption) ?_; intro tX1))
theorem SeqOk.at {t pre bt : List Nat} (h : SeqOk t pre) (h2 : ∀ (i v : Nat), bt[i]? = some v → Good t (pre ++ bt.take i) v ∧ ∀ w, (exS t (pre ++ bt.take i)).getD w 0 ≤ 6) (n : Nat) : SeqOk t (pre ++ bt.take n) := by
  have := (h.app h2).take (pre.length + n)
  rw [List.take_append, List.take_of_length_le (by omega), Nat.add_sub_cancel_left] at this
  exact this
local macro_rules | `(tactic| walk_at "setItem ref str") => `(tactic| (k_here; refine' kda_set (knd := PySem.strKind _ _) ?F ?N ?U ?d (strKind_is _ _ _ _) ?z ?_; (case F => k_asm); (case N => k_asm); (case U => k_updF); (case d => k_asm); (case z => assumption); intro h' o' F' N' hd'; (try dsimp only at N')))
local macro_rules | `(tactic| walk_at "setItem ref str") => `(tactic| ((with_reducible rename Mark => mk9); clear mk9; refine stop_it ?_))
theorem wys_zero (t : List Nat) : (wys t)[0]? = some (Str.ofString "/") := by
  have : ∀ (t : List Nat) (ws : List Str) (x : Str), ws[0]? = some x → (t.foldl wyAdd ws)[0]? = some x := by
    intro t
    induction t with
    | nil => intro ws x h; exact h
    | cons a t ih =>
      intro ws x h
      rw [List.foldl_cons]
      refine ih _ _ ?_
      unfold wyAdd
      rw [List.getElem?_append_left (List.getElem?_eq_some_iff.mp h).1]; exact h
  exact this t _ _ rfl
section
variable {M : Model} {A : Around} {E : Value → Shared → Prop} {s : Shared} {env : Env}
theorem methodStar_ {o : Expr} {name : Str} {apos pos p : Pos} {e : Expr} {Q : Value → Shared → Prop}
    (h : wpAny M A (eval o env) (fun ov s₁ => wpAny M A (getAttr ov name true) (fun f s₂ => wpAny M A (callWith pos f [] (backTo pos (starEach [.Starred e p] env)) []) Q E s₂) E s₁) E s)
    (he : eval (.Call (.Attribute o name apos) [.Starred e p] [] pos) env = (do
      let ov ← eval o env
      standAt apos.atName
      let (f, first) ← holding [ov] (do pure (← getAttr ov name true, ([] : List Value)))
      let cp ← (pure pos : Sem Pos)
      callWith cp f first (backTo pos (starEach [.Starred e p] env)) []) := by rfl) :
    wpAny M A (eval (.Call (.Attribute o name apos) [.Starred e p] [] pos) env) Q E s := by
  rw [he]
  refine wpAny_bind (wpAny_mono h (fun ov s₁ h₁ => wpAny_bind (wpAny_standAt (wpAny_bind (wpAny_holding (wpAny_bind (wpAny_mono h₁ (fun f s₂ h₂ => wpAny_pure ?_) fun _ _ x => x)))))) fun _ _ x => x)
  exact wpAny_bind (wpAny_pure h₂)
theorem callWith_SM {K : Frag} {pos p : Pos} {first : List Value} {Q : Value → Shared → Prop} {h₀ : Heap} {L : Addr} {news : List (Addr × Obj)} {q g : Addr} {self : Value} {e : Expr} (_N : News h₀ L s.heap news) (_q : (q, methodObj (.ref g) self) ∈ news) (_X : K.In h₀) (hf : fnIn K g = true)
    (h : wpAny M A (eval e env) (fun v s₁ => StarOf M A E v (fun vs s₂ => MethP K q g self s₂.heap ∧ wpAny M A (call (.ref q) (first ++ vs)) Q E s₂) s₁) E s)
    (he : starEach [.Starred e p] env = [(true, eval e env)] := by rfl) :
    wpAny M A (callWith pos (.ref q) first (backTo pos (starEach [.Starred e p] env)) []) Q E s := by
  rw [he]
  exact ks_call rfl (keeps_M hf) (ks_lone h)
end
local macro_rules | `(tactic| walk_at "eval Call Attribute") => `(tactic| (k_here; (with_reducible show wpAny _ _ (eval (Expr.Call (Expr.Attribute _ _ _) [Expr.Starred _ _] [] _) _) _ _ _); refine methodStar_ ?_))
local macro_rules | `(tactic| walk_at "callWith ref") => `(tactic| (k_here; (with_reducible show wpAny _ _ (callWith _ (Value.ref _) _ (backTo _ (starEach [Expr.Starred _ _] _)) []) _ _ _); refine callWith_SM (by k_asm) (by k_mem) (by k_asm) (by k_is) ?_))
local macro_rules | `(tactic| walk_at "StarOf ref") => `(tactic| (refine stop_it ?_))
local macro_rules | `(tactic| walk_at "call builtin:dict.get") => `(tactic| (k_here; refine kdg_get2 (knd := PySem.strKind _ _) (by k_asm) (by k_mem) (by k_asm) (by k_asm) (strKind_is _ _ _ _) _ (by assumption) ?_; (try dsimp only [Option.getD])))
local macro_rules | `(tactic| walk_at "eval ListComp") => `(tactic| (refine stop_it ?_))
local macro_rules | `(tactic| walk_at "CompEnd") => `(tactic| (refine stop_it ?_))
theorem compR_ind {prog : Program} {w : World} {A : Around} {s : Shared} {h₀ : Heap} {L : Addr} {m : Str → Option Value} {env : Env} {elt : PySem.Expr} {x : Str} {scope : Scope} {cl : List (Str × Addr)} {S : List (Addr × Obj) → Prop} {P : Nat → Value → Prop} {Fin : List Value → List (Addr × Obj) → Prop} {news : List (Addr × Obj)} {n : Nat} (J : Nat → List Value → Prop)
    (h0 : J 0 []) (done : ∀ ys, J n ys → Fin ys news)
    (turn : ∀ i ys v I oI C oC D m₂ h tk (E' : Value → Shared → Prop), i < n → J i ys → P i v → LCg.NsObj oC m₂ → m₂ x = some v → Fr h₀ L h m → News h₀ L h ((I, oI) :: (C, oC) :: (D, LCg.lst ys) :: news) → LCg.Off3 I C D news → ((@Ne Nat I C) ∧ (@Ne Nat I D) ∧ (@Ne Nat C D)) →
      wpAny (model prog w) A (eval elt (compEnvC scope cl C env)) (LCg.CompEnd h₀ L m { s with heap := h, toks := tk } I oI C oC D (LCg.lst ys) S (fun y news' => news' = news ∧ J (i + 1) (ys ++ [y]))) E' { s with heap := h, toks := tk }) :
    LCg.CompRest prog w A h₀ L m env elt x scope cl s S P Fin n 0 [] news := by
  have key : ∀ k i ys, i + k = n → J i ys → LCg.CompRest prog w A h₀ L m env elt x scope cl s S P Fin k i ys news := by
    intro k
    induction k with
    | zero => intro i ys hik hJ; exact LCg.CompRest.zero (done ys (by rw [← hik]; exact hJ))
    | succ k ih =>
      intro i ys hik hJ
      refine LCg.CompRest.succ fun v I oI C oC D m₂ h tk E' hP hC hx F N off ne => ?_
      exact wpAny_mono (turn i ys v I oI C oC D m₂ h tk E' (by omega) hJ hP hC hx F N off ne) (fun y s₂ hy => CompEnd.mono hy fun nw q => by obtain ⟨rfl, hJ'⟩ := q; exact ih (i + 1) _ (by omega) hJ') fun _ _ z => z
  exact key n 0 [] (Nat.zero_add _) h0
/-- the rows as they are handed back -/
def RowsAt (t : List Nat) (rws : List Value) (R : List (Addr × Obj)) : Prop := rws.length = t.length + 1 ∧ ∀ v, v ≤ t.length → ∃ (a l1 l2 : Addr) (vs1 vs2 : List Value), rws[v]? = some (.ref a) ∧ (a, W.listOf #[.ref l1, .ref l2] 0) ∈ R ∧ (l1, W.listOf vs1.toArray 0) ∈ R ∧ (l2, W.listOf vs2.toArray 0) ∈ R ∧ IntsAre vs1 (dueT t v).1 ∧ IntsAre vs2 (dueT t v).2
def Off8 (m m0 : Str → Option Value) : Prop := ∀ y, y ≠ Str.ofString "up" → y ≠ Str.ofString "rest" → y ≠ Str.ofString "second" → y ≠ Str.ofString "left" → y ≠ Str.ofString "first" → y ≠ Str.ofString "low" → y ≠ Str.ofString "top" → y ≠ Str.ofString "way" → m y = m0 y
def Off9 (m m0 : Str → Option Value) : Prop := ∀ y, y ≠ Str.ofString "up" → y ≠ Str.ofString "rest" → y ≠ Str.ofString "second" → y ≠ Str.ofString "left" → y ≠ Str.ofString "first" → y ≠ Str.ofString "low" → y ≠ Str.ofString "top" → y ≠ Str.ofString "way" → y ≠ Str.ofString "batch" → m y = m0 y
inductive JA9 (prog : Program) (w : World) (t : List Nat) (x dx d wa L' D : Addr) (wvs : List Value) (e2 : Nat) (t0 t1 t2 t3 t4 t5 : Tok) (oC : Obj) (Z0 K0 : List (Addr × Obj)) (m0 : Str → Option Value) (i : Nat) (m : Str → Option Value) (news : List (Addr × Obj)) : Prop
  | mk (uw : Option Value) (o' : Obj) (ns : List NR) : m = (fun y => if y = Str.ofString "way" then uw else m0 y) →
      news = (D, W.listOf (wvs.drop 1).toArray 0) :: (x, instObj 172 dx) :: (dx, sDict w t0 t1 t2 t3 d .none (.int 0 t4) (.int 0 t5)) :: (L' + 1, oC) :: (wa, W.listOf wvs.toArray e2) :: (Z0 ++ (d, o') :: chunk ns) →
      o'.IsDictOf (PySem.strKind prog w) (kvsOf ns) → (d :: addrs ns).Nodup → (∀ q ∈ K0, q.1 ∉ d :: addrs ns) → ((i = 0 ∧ ns = []) ∨ (1 ≤ i ∧ Built t i ns)) → JA9 prog w t x dx d wa L' D wvs e2 t0 t1 t2 t3 t4 t5 oC Z0 K0 m0 i m news
inductive JI9 (prog : Program) (w : World) (t : List Nat) (wd : Nat) (g' : Heap) (qa ar au av x dx d rl wa : Addr) (o7 oC : Obj) (wvs : List Value) (e2 : Nat) (ns : List NR) (qs : List (Addr × Obj)) (BA : List Addr) (m0 : Str → Option Value) (np : List Int) (bt pre : List Nat) (h : Heap) : Prop
  | mk (m' : Str → Option Value) (oV oU oR : Obj) (kV kU kR : List (Str × Value)) (nsI : List NR) (rdy : List Value) (ep : Nat) (u0 u1 u2 u3 u4 u5 : Tok) (pn : Int) (Z T : List (Addr × Obj)) : Off9 m' m0 →
        Fr g' qa h m' → News g' qa h ((ar, oR) :: (au, oU) :: (av, oV) :: (x, instObj 172 dx) :: (dx, sDict w u0 u1 u2 u3 d (.ref rl) (.int pn u4) (.int pn u5)) :: (d, o7) :: (rl, W.listOf rdy.toArray ep) :: (qa + 1, oC) :: (wa, W.listOf wvs.toArray e2) :: (chunk nsI ++ (qs ++ (Z ++ T)))) →
        oV.IsDictOf (PySem.strKind prog w) kV → oU.IsDictOf (PySem.strKind prog w) kU → oR.IsDictOf (PySem.strKind prog w) kR →
        DN (wys t) kV (numS t (2 ^ wd) pre).ov 0 → DN (wys t) kU (numS t (2 ^ wd) pre).un 1 → RowsOk (wys t) kR pre wd (numS t (2 ^ wd) pre) Z → kV.length ≤ pre.length → kU.length ≤ pre.length → kR.length ≤ pre.length → pre.length ≤ 7 →
        nsI.map NR.key = ns.map NR.key → nsI.map (·.np) = np → Named nsI rdy bt → SeqOk t pre → TabsL w T → (pre ≠ [] → TabsU w T) → Apart BA Z T → JI9 prog w t wd g' qa ar au av x dx d rl wa o7 oC wvs e2 ns qs BA m0 np bt pre h
inductive JB9 (prog : Program) (w : World) (t : List Nat) (wd : Nat) (qa rb ar au av : Addr) (oC : Obj) (rdy : List Value) (Y : List (Addr × Obj)) (BA : List Addr) (pre bt : List Nat) (m0 : Str → Option Value) (i : Nat) (m : Str → Option Value) (news : List (Addr × Obj)) : Prop
  | mk (oV oU oR : Obj) (kV kU kR : List (Str × Value)) (Z T : List (Addr × Obj)) : Off8 m m0 →
          news = (rb, { cls := .type "tuple", data := .seq rdy.toArray }) :: (ar, oR) :: (au, oU) :: (av, oV) :: (qa + 1, oC) :: ((Y ++ Z) ++ T) →
          oV.IsDictOf (PySem.strKind prog w) kV → oU.IsDictOf (PySem.strKind prog w) kU → oR.IsDictOf (PySem.strKind prog w) kR →
          DN (wys t) kV (numS t (2 ^ wd) (pre ++ bt.take i)).ov 0 → DN (wys t) kU (numS t (2 ^ wd) (pre ++ bt.take i)).un 1 → RowsOk (wys t) kR (pre ++ bt.take i) wd (numS t (2 ^ wd) (pre ++ bt.take i)) Z → kV.length ≤ pre.length + i → kU.length ≤ pre.length + i → kR.length ≤ pre.length + i →
          TabsL w T → (pre ++ bt.take i ≠ [] → TabsU w T) → Apart (rb :: BA) Z T → JB9 prog w t wd qa rb ar au av oC rdy Y BA pre bt m0 i m news
set_option maxHeartbeats 4000000 in
theorem digits_spec {prog : Program} {w : World} {A : Around} {E : Value → Shared → Prop} {s : Shared} {p : Program} {loose : List Str} {mean : ExcName → Option Value} {mg mb : Str → Option Value} {H0 : Heap}
    (rm : Rm A 150) (G : Gnd w p loose mean mg mb H0) (k : H0.StaysIn s.heap)
    {wa : Addr} {wvs : List Value} {e2 : Nat} {t : List Nat} {wd : Nat} {tn : Tok} {l : List Env} {frs : List (Addr × Obj)} {Q : Value → Shared → Prop} (hfr : A.frames = some l) (Fs : TI.Frs l frs) (Sf : ∀ q ∈ frs, s.heap.get? q.1 = some q.2) (Sfn : ∀ q ∈ frs, H0.get? q.1 = none)
    (hl : s.heap.get? wa = some (W.listOf wvs.toArray e2)) (hwn : H0.get? wa = none) (haf : ∀ q ∈ frs, @Ne Nat q.1 wa ∧ @Ne Nat q.1 37 ∧ @Ne Nat q.1 44) (hI : StrsAre wvs (wys t)) (h2 : 2 ≤ t.length) (h6 : t.length ≤ 6) (ht : TreeOk t) (hw : 32 ≤ wd) (hw2 : wd ≤ 64) (hs1 : s.heap.get? 37 = some (tabObj #[])) (hs2 : s.heap.get? 44 = some (tabObj #[]))
    (h : ∀ h' tk r frs' rws R T, TI.SameUp frs frs' → TI.Frs l frs' → (∀ q ∈ frs', h'.get? q.1 = some q.2) → (∀ b z, b ∉ frs.map (·.1) → b ≠ 37 → b ≠ 44 → s.heap.get? b = some z → h'.get? b = some z) → h'.get? r = some (LCg.lst rws) → s.heap.get? r = none → RowsAt t rws R → (∀ q ∈ R, h'.get? q.1 = some q.2 ∧ s.heap.get? q.1 = none) → TabsU w T → (∀ q ∈ T, h'.get? q.1 = some q.2) → Q (.ref r) { s with heap := h', toks := tk }) :
    wpAny (model prog w) A (call (.ref 303) [.ref wa, .int (wd : Int) tn] []) Q E s := by
  obtain ⟨hp0, gn0, dr0, tk0, os0⟩ := s
  dsimp only at k Sf hl hs1 hs2 h
  obtain ⟨hd', d', fr, gs, u⟩ := A
  obtain rfl : hd' = none := rm.hh
  obtain rfl : fr = some l := hfr
  refine wpAny_call ?_
  w_on
  refine' enter_cells (M := (wa, W.listOf wvs.toArray e2) :: (frs ++ [(37, tabObj #[]), (44, tabObj #[])])) (binds := [(Str.ofString "ways", Value.ref wa), (Str.ofString "width", Value.int (wd : Int) tn)]) G k ?k6 ?k7 ?k8 (List.forall_mem_cons.mpr ⟨hl, all_app Sf (List.forall_mem_cons.mpr ⟨hs1, List.forall_mem_singleton.mpr hs2⟩)⟩) (List.forall_mem_cons.mpr ⟨hwn, all_app Sfn (List.forall_mem_cons.mpr ⟨G.n2, List.forall_mem_singleton.mpr G.n1⟩)⟩) ?k9 ?kB ?_ ?kD ?c2 ?c3 ?c4
  walk_at "m_cells"
  intro L' h' g' tk' cells' hL hg kg F' N' Y' l1
  obtain ⟨X', T', C1', C2'⟩ := G.keeps kg
  k_cells Y'
  (try simp only [List.cons_append, List.nil_append] at N')
  have hwd : wd ≤ 1000 := by omega
  dsimp only
  repeat' (first | (k_unfold; (try dsimp only)) | walk1 | (dsimp only; walk1) | (leave1; (try dsimp only)) | fail "no step")
  unfold Stop
  rename Fr _ _ _ _ => F2
  rename News _ _ _ _ => N2
  obtain ⟨Z0, hZ0⟩ : ∃ Z0, Z0 = frs ++ [(37, tabObj #[]), (44, tabObj #[])] := ⟨_, rfl⟩
  rw [← hZ0] at N2 hg l1
  obtain ⟨oC, vC, hoC, N2⟩ : ∃ (oC : Obj) (vC : _), oC.data = Data.cell vC ∧ News g' L' _ ((L' + 1, oC) :: (wa, W.listOf wvs.toArray e2) :: Z0) := ⟨_, _, by assumption, N2⟩
  refine' call_cls F2 X' N2 ?m1 ?m2 ?m3 ?_
  case m1 => k_is
  case m2 => k_is
  case m3 => k_is
  intro x dx h3 F3 N3 l3 l4
  refine init_spec (rm.less (by decide : 22 ≤ 150)).deeper.make G (fun b o e => F3.keep _ _ (kg _ _ e)) (News.get N3 (.head _)) (News.get N3 (List.mem_of_getElem? (i := 1) rfl)) (fresh_of_stays kg (N3 _ (.head _)).2.2) (fresh_of_stays kg (N3 _ (List.mem_of_getElem? (i := 1) rfl)).2.2) l4 ?_
  intro h4 tk4 d o t0 t1 t2 t3 t4 t5 k4 gd fd gx gdx lo hdd lxd
  refine ⟨rfl, ?_⟩
  dsimp only
  have l5 : ∀ q ∈ Z0, @LT.lt Nat _ q.1 dx := fun q hq => l3 q (.tail _ (.tail _ hq))
  have l6 : @LT.lt Nat _ wa dx := l3 _ (.tail _ (.head _))
  have l7 : @LT.lt Nat _ (L' + 1) dx := l3 _ (.head _)
  obtain ⟨F4, N4⟩ := after_many (K := (L' + 1, oC) :: (wa, W.listOf wvs.toArray e2) :: Z0) (S := [(x, instObj 172 dx), (dx, dictOf [] 0)]) (S' := [(x, instObj 172 dx), (dx, sDict w t0 t1 t2 t3 d .none (.int 0 t4) (.int 0 t5))]) F3 (news_of N3 (fun q hq => by
      revert q
      walk_at "m_sub")) (h' := h4)
    (fun q hq hm => by
      have hlt : @LT.lt Nat _ q.1 dx := l3 q hq
      rcases List.mem_cons.mp (show q.1 ∈ x :: [dx] from hm) with e | hm
      · exact Nat.lt_irrefl _ (Nat.lt_trans (e ▸ hlt) l4)
      · exact Nat.lt_irrefl _ (List.mem_singleton.mp hm ▸ hlt))
    (fa_cons (.head _) (fa_cons (.tail _ (.head _)) fa_nil))
    (fun b' z hb' e => k4 b' z (fun e2 => hb' (e2 ▸ .head _)) (fun e2 => hb' (e2 ▸ .tail _ (.head _))) e)
    (fa_cons gx (fa_cons gdx fa_nil))
  have N4 := newsAddF F3 N4 gd fd
  have N4 := news_of N4 (b := (d, o) :: (x, instObj 172 dx) :: (dx, sDict w t0 t1 t2 t3 d .none (.int 0 t4) (.int 0 t5)) :: (L' + 1, oC) :: (wa, W.listOf wvs.toArray e2) :: Z0) (fun q hq => by
      revert q
      walk_at "m_sub")
  clear N2 N3 F2 F3 k4 gd fd gx gdx
  have hsl := slice1 wvs
  have hwl : wvs.length = t.length + 1 := by rw [strs_len hI, wys_len]
  have hsz : wvs.toArray.size ≤ sizeLine := by rw [List.size_toArray, hwl, sizeLine_eq]; omega
  have mk1 := mark
  have mk2 := mark
  repeat' (first | (k_unfold; (try dsimp only)) | walk1 | (dsimp only; walk1) | (leave1; (try dsimp only)) | fail "no step")
  unfold Stop
  rename Fr _ _ _ _ => F5
  with_unfolding_all refine' For_invVF F5 ?k1 ?k2 ?_
  case k1 => exact rfl
  case k2 => exact rfl
  repeat' (first | (k_unfold; (try dsimp only)) | walk1 | (dsimp only; walk1) | (leave1; (try dsimp only)) | fail "no step")
  unfold Stop
  rename Fr _ _ _ _ => F6
  rename News _ _ _ _ => N6
  rename_i D _ l8
  have W9 := ways_ok ht h6
  obtain ⟨K0, hK0⟩ : ∃ K0 : List (Addr × Obj), K0 = (D, W.listOf (wvs.drop 1).toArray 0) :: (x, instObj 172 dx) :: (dx, sDict w t0 t1 t2 t3 d .none (.int 0 t4) (.int 0 t5)) :: (L' + 1, oC) :: (wa, W.listOf wvs.toArray e2) :: Z0 := ⟨_, rfl⟩
  have nx : H0.get? x = none := fresh_of_stays kg (N6 _ (List.mem_of_getElem? (i := 2) rfl)).2.2
  have ndx : H0.get? dx = none := fresh_of_stays kg (N6 _ (List.mem_of_getElem? (i := 3) rfl)).2.2
  have ndd : H0.get? d = none := fresh_of_stays kg (N6 _ (List.mem_of_getElem? (i := 1) rfl)).2.2
  have hdK : ∀ q ∈ K0, q.1 ≠ d := fun q hq => by
    have ldd : @LT.lt Nat _ dx d := Nat.lt_trans l4 lxd
    rw [hK0] at hq
    revert q
    walk_at "m_fa"
    · exact Nat.ne_of_gt (l8 _ (.head _))
    · exact Nat.ne_of_lt lxd
    · exact Nat.ne_of_lt ldd
    · exact Nat.ne_of_lt (Nat.lt_trans l7 ldd)
    · exact Nat.ne_of_lt (Nat.lt_trans l6 ldd)
    · exact fun q hq => Nat.ne_of_lt (Nat.lt_trans (l5 q hq) ldd)
  have N7 := news_of N6 (b := K0 ++ [(d, o)]) (by rw [hK0]; walk_at "m_sub")
  rw [hK0] at N7
  have hD := News.get N7 (.head _)
  clear N6 l3
  refine' listN (m₀ := ?m) (its := (wvs.drop 1).toArray) (JA9 prog w t x dx d wa L' D wvs e2 t0 t1 t2 t3 t4 t5 oC Z0 K0 ?m) rfl F6 N7 [(D, W.listOf (wvs.drop 1).toArray 0)] ⟨_, hD, rfl, 0, rfl⟩ (.inr (.head _)) (Ne.symm (N7 _ (.head _)).2.1) ?hJc ?h0 ?turn ?done
  case hJc =>
    rintro i m news ⟨uw, o', ns, rfl, rfl, _⟩ q hq
    rw [List.mem_singleton.mp hq]; exact .head _
  case h0 => exact ⟨_, o, [], map1_start rfl, rfl, hdd, List.nodup_cons.mpr ⟨List.not_mem_nil, List.nodup_nil⟩, fun q hq hm => hdK q hq (List.mem_singleton.mp hm), .inl ⟨rfl, rfl⟩⟩
  case turn =>
    rintro J' hJ' ⟨h7, g7, dr7, tk7, os7⟩ I i v m₁ news₁ oI hi hv ⟨uw, o7, ns, rfl, rfl, ho7, nd7, hK7, hc7⟩ hne F7 N8
    change Fr g' L' h7 _ at F7
    change News g' L' h7 _ at N8
    refine opq fun QQ hQQ => ?_
    have hil : i < t.length := by
      rw [List.size_toArray, List.length_drop, hwl, Nat.add_sub_cancel] at hi; exact hi
    obtain ⟨y, hy⟩ : ∃ y, (wys t)[i + 1]? = some y := ⟨_, List.getElem?_eq_getElem (by rw [wys_len]; exact Nat.succ_lt_succ hil)⟩
    obtain ⟨tv, htv⟩ := strs_get hI hy
    obtain rfl : v = .str y tv := by
      rw [List.getElem?_toArray, List.getElem?_drop, Nat.add_comm, htv] at hv
      exact (Option.some.inj hv).symm
    obtain ⟨c1, c2, c3, c4⟩ := W9.dir i y hil hy
    clear N7 F6
    repeat' (first | (k_unfold; (try dsimp only)) | walk1 | (dsimp only; walk1) | (leave1; (try dsimp only)) | fail "no step")
    unfold Stop
    rename Fr _ _ _ _ => F8
    rename News _ _ _ _ => N9
    refine dirname_spec (rm.less (by decide : 31 ≤ 150)).deeper G (fun b o e => F8.keep _ _ (kg _ _ e)) (Nat.le_trans c1 (by rw [sizeLine_eq]; decide)) (y := cutR y) rfl c2 (Nat.le_trans c3 (by decide)) ?_
    intro h8 tk8 td k8
    have F10 := F8.keeps k8
    have N10 := N9.grown k8
    clear F8 N9
    repeat' (first | (k_unfold; (try dsimp only)) | walk1 | (dsimp only; walk1) | (leave1; (try dsimp only)) | fail "no step")
    unfold Stop
    rename Fr _ _ _ _ => F11
    rename News _ _ _ _ => N11
    have hk11 : H0.StaysIn h8 := fun b o e => F11.keep _ _ (kg _ _ e)
    have hneD : I ∉ (d :: addrs ns) := fun hm => by
      rcases List.mem_cons.mp hm with e | hm
      · exact hne (d, o7) (by walk_at "m_mem") e.symm
      · rw [← chunk_as] at hm
        obtain ⟨q, hq, e⟩ := List.mem_map.mp hm
        exact hne q (by (try rw [hq]); walk_at "m_mem") e
    have hK8 : ∀ q ∈ (I, oI) :: K0, q.1 ∉ d :: addrs ns := List.forall_mem_cons.mpr ⟨hneD, hK7⟩
    have hIK : ∀ q ∈ K0, q.1 ≠ I := fun q hq => hne q (by
      rw [hK0] at hq
      revert q
      walk_at "m_sub")
    have N12 : News g' L' h8 (((I, oI) :: K0) ++ (d, o7) :: chunk ns) := by rw [hK0]; exact N11
    have F12 : Fr g' L' h8 _ := F11
    clear N11
    have gx := (N12 (x, instObj 172 dx) (by rw [hK0]; walk_at "m_mem")).1
    have gdx := (N12 (dx, sDict w t0 t1 t2 t3 d .none (.int 0 t4) (.int 0 t5)) (by rw [hK0]; walk_at "m_mem")).1
    have gd := (N12 (d, o7) (by walk_at "m_mem")).1
    rcases hc7 with ⟨i0, n0⟩ | ⟨i1, hb⟩
    · subst i0 n0
      have hp0 : t.getD 0 0 = 0 := by have := (tree_at ht hil).2; omega
      rw [hp0] at c4
      have hne2 : dirR (cutR y) ≠ y := fun e => by
        have := nodup_idx W9.nd c4 (e ▸ hy)
        omega
      refine add_first (rm.less (by decide : 51 ≤ 150)).deeper G hk11 gx gdx gd ho7 lo nx ndx ndd l4 lxd rfl (fun i => ?_) (by decide) (fun i => Nat.le_trans (stored_len _ _ _) (by decide)) ?_
      · rw [valueAt_stored, if_neg hne2]; rfl
      intro h9 tk9 o9 r c k9 gd9 ho9 ry rn rs cy cn cs gr gc fr fc ndc
      obtain ⟨F13, N13, nd13, hK13⟩ := led_first (K := (I, oI) :: K0) F12 (by simpa [chunk] using N12) (fun q hq => fun e => hK8 q hq (by rw [e]; exact .head _)) k9 gd9 gr gc fr fc ndc
      have hb := Built.first ht (by omega) c4 hy ry rn rs cy cn cs
      have N14 : News g' L' h9 ((I, oI) :: (D, W.listOf (wvs.drop 1).toArray 0) :: (x, instObj 172 dx) :: (dx, sDict w t0 t1 t2 t3 d .none (.int 0 t4) (.int 0 t5)) :: (L' + 1, oC) :: (wa, W.listOf wvs.toArray e2) :: (Z0 ++ (d, o9) :: chunk [r, c])) := by
        rw [hK0] at N13; exact N13
      clear N12 F12 N13 F11 F5
      repeat' (first | (k_unfold; (try dsimp only)) | walk1 | (dsimp only; walk1) | (leave1; (try dsimp only)) | fail "no step")
      rename Fr _ _ _ _ => F15
      rename News _ _ _ _ => N15
      refine hQQ _ _ (EndN.mk' ((D, W.listOf (wvs.drop 1).toArray 0) :: (x, instObj 172 dx) :: (dx, sDict w t0 t1 t2 t3 d .none (.int 0 t4) (.int 0 t5)) :: (L' + 1, oC) :: (wa, W.listOf wvs.toArray e2) :: (Z0 ++ (d, o9) :: chunk [r, c])) F15 N15 (.head _) (fun q hq => .tail _ hq) ?_ ?_)
      · have hI9 := hK13 (I, oI) (.head _)
        intro q hq
        have h5 : q ∈ K0 ∨ q ∈ (d, o9) :: chunk [r, c] := by
          refine List.mem_append.mp ?_
          rw [hK0]
          clear hI9
          revert q
          walk_at "m_sub"
        rcases h5 with h5 | h5
        · exact hIK q h5
        · intro e
          refine hI9 ?_
          show I ∈ _
          rw [← e]
          rcases List.mem_cons.mp h5 with h5 | h5
          · rw [h5]; exact .head _
          · refine .tail _ ?_
            rw [← chunk_as]; exact List.mem_map_of_mem h5
      · have ho10 : o9.IsDictOf (PySem.strKind prog w) (kvsOf [r, c]) := by
          have e1 : stored ([] : List (Str × Value)) (dirR (cutR y)) (.ref r.inf) = [(dirR (cutR y), .ref r.inf)] := rfl
          have e2 : stored [(dirR (cutR y), Value.ref r.inf)] y (.ref c.inf) = [(dirR (cutR y), .ref r.inf), (y, .ref c.inf)] := by
            rw [stored_new (by rw [valueAt_cons, if_neg hne2]; rfl)]; rfl
          have h5 : kvsOf [r, c] = [(dirR (cutR y), .ref r.inf), (y, .ref c.inf)] := by
            show [(r.y, Value.ref r.inf), (c.y, Value.ref c.inf)] = _
            rw [ry, cy]
          have h6 : kvsOf ([] : List NR) = [] := rfl
          rw [h6, e1, e2, ← h5] at ho9
          exact ho9
        exact hJ' _ _ _ ⟨_, o9, [r, c], map1_turn, rfl, ho10, nd13, fun q hq => hK13 q (.tail _ hq), .inr ⟨Nat.le_refl _, hb⟩⟩
    · obtain ⟨r, hr⟩ : ∃ r, ns[t.getD i 0]? = some r := ⟨_, List.getElem?_eq_getElem (by rw [hb.len]; have := (tree_at ht hil).2; omega)⟩
      have ery : r.y = dirR (cutR y) := Option.some.inj ((hb.y _ _ hr).symm.trans c4)
      have hny : (ns.map (·.y)).Nodup ∧ y ∉ ns.map (·.y) := by
        have e5 : ns.map (·.y) = (wys t).take (i + 1) := by
          apply List.ext_getElem?
          intro v
          rw [List.getElem?_map]
          cases e : ns[v]? with
          | none =>
            have h5 := List.getElem?_eq_none_iff.mp e
            rw [hb.len] at h5
            rw [List.getElem?_take_eq_none (by omega)]; rfl
          | some z =>
            have h5 := (List.getElem?_eq_some_iff.mp e).1
            rw [hb.len] at h5
            rw [List.getElem?_take_of_lt h5, hb.y _ _ e]; rfl
        rw [e5]
        refine ⟨List.Nodup.sublist (List.take_sublist _ _) W9.nd, fun hm => ?_⟩
        obtain ⟨j, hj⟩ := List.mem_iff_getElem?.mp hm
        have hjl : j < i + 1 := by
          have := (List.getElem?_eq_some_iff.mp hj).1
          rw [List.length_take] at this; exact Nat.lt_of_lt_of_le this (Nat.min_le_left _ _)
        rw [List.getElem?_take_of_lt hjl] at hj
        have := nodup_idx W9.nd hj hy
        omega
      obtain ⟨am1, am2, am3⟩ := as_mem hr
      have nd8 := (List.nodup_cons.mp nd7)
      obtain ⟨s1, s2, s3, s4, s5, s6⟩ := nodup_split nd8.2 hr
      have hxK := hK8 (x, instObj 172 dx) (by rw [hK0]; walk_at "m_mem")
      have hdxK := hK8 (dx, sDict w t0 t1 t2 t3 d .none (.int 0 t4) (.int 0 t5)) (by rw [hK0]; walk_at "m_mem")
      have gi := (N12 (r.inf, nObj r.dx r.y r.ty (.int r.np r.tnp) r.sl) (List.mem_append_right _ (.tail _ (ent_sub hr _ (.head _)))))
      have gi2 := (N12 (r.dx, dictOf [] 0) (List.mem_append_right _ (.tail _ (ent_sub hr _ (.tail _ (.head _))))))
      rw [← ery]
      refine add_more (rm.less (by decide : 51 ≤ 150)).deeper G hk11 gx gdx gd ho7 lo nx ndx ndd gi.1 gi2.1 (fresh_of_stays kg gi.2.2) (fresh_of_stays kg gi2.2.2) l4 lxd (fun e => hxK (.tail _ (e ▸ am1))) (fun e => hdxK (.tail _ (e ▸ am1))) (fun e => nd8.1 (e ▸ am1)) (Ne.symm s1) (fun e => nd8.1 (e ▸ am2)) (valueAt_kvs hny.1 hr) (valueAt_none hny.2) (by unfold kvsOf; rw [List.length_map, hb.len]; omega) ?_
      intro h9 tk9 o9 c tnp k9 gd9 ho9 gi9 cy cn cs gc fc ndc
      obtain ⟨r', er'⟩ : ∃ r' : NR, r' = { r with np := r.np + 1, tnp := tnp } := ⟨_, rfl⟩
      have kr' : r'.key = r.key := by rw [er']; rfl
      obtain ⟨F13, N13, nd13, hK13⟩ := led_more (K := (I, oI) :: K0) (r' := r') F12 N12 nd7 hK8 hr k9 gd9 gi9 (by rw [er']; rfl) (key_as kr') gc fc ndc
      have hb := Built.more ht hil hb hr kr' (by rw [er']) hy cy cn cs
      have ho10 : o9.IsDictOf (PySem.strKind prog w) (kvsOf (ns.set (t.getD i 0) r' ++ [c])) := by
        rw [stored_new (valueAt_none hny.2)] at ho9
        rw [kvs_app, cy, keys_kvs (keys_set rfl hr kr')]
        exact ho9
      have N14 : News g' L' h9 ((I, oI) :: (D, W.listOf (wvs.drop 1).toArray 0) :: (x, instObj 172 dx) :: (dx, sDict w t0 t1 t2 t3 d .none (.int 0 t4) (.int 0 t5)) :: (L' + 1, oC) :: (wa, W.listOf wvs.toArray e2) :: (Z0 ++ (d, o9) :: chunk (ns.set (t.getD i 0) r' ++ [c]))) := by
        rw [hK0] at N13; exact N13
      generalize ns.set (t.getD i 0) r' ++ [c] = ns' at N13 N14 nd13 hK13 hb ho10
      clear N12 F12 N13 F11 F5
      repeat' (first | (k_unfold; (try dsimp only)) | walk1 | (dsimp only; walk1) | (leave1; (try dsimp only)) | fail "no step")
      rename Fr _ _ _ _ => F15
      rename News _ _ _ _ => N15
      refine hQQ _ _ (EndN.mk' ((D, W.listOf (wvs.drop 1).toArray 0) :: (x, instObj 172 dx) :: (dx, sDict w t0 t1 t2 t3 d .none (.int 0 t4) (.int 0 t5)) :: (L' + 1, oC) :: (wa, W.listOf wvs.toArray e2) :: (Z0 ++ (d, o9) :: chunk ns')) F15 N15 (.head _) (fun q hq => .tail _ hq) ?_ ?_)
      · have hI9 := hK13 (I, oI) (.head _)
        intro q hq
        have h5 : q ∈ K0 ∨ q ∈ (d, o9) :: chunk ns' := by
          refine List.mem_append.mp ?_
          rw [hK0]
          clear hI9
          revert q
          walk_at "m_sub"
        rcases h5 with h5 | h5
        · exact hIK q h5
        · intro e
          refine hI9 ?_
          show I ∈ _
          rw [← e]
          rcases List.mem_cons.mp h5 with h5 | h5
          · rw [h5]; exact .head _
          · refine .tail _ ?_
            rw [← chunk_as]; exact List.mem_map_of_mem h5
      · exact hJ' _ _ _ ⟨_, o9, ns', map1_turn, rfl, ho10, nd13, fun q hq => hK13 q (.tail _ hq), .inr ⟨by omega, hb⟩⟩
  case done =>
    rintro m' news' h7 tk7 ⟨uw, o7, ns, rfl, rfl, ho7, nd7, hK7, hc7⟩ F7 N8
    obtain ⟨_, hb⟩ : 1 ≤ t.length ∧ Built t t.length ns := by
      rw [List.size_toArray, List.length_drop, hwl, Nat.add_sub_cancel] at hc7
      exact hc7.resolve_left (fun q => by omega)
    clear hc7 N7 F6 F5 hdd
    have N9 : News g' L' h7 ((x, instObj 172 dx) :: (dx, sDict w t0 t1 t2 t3 d .none (.int 0 t4) (.int 0 t5)) :: (d, o7) :: (L' + 1, oC) :: (wa, W.listOf wvs.toArray e2) :: (chunk ns ++ (frs ++ [(37, tabObj #[]), (44, tabObj #[])]))) := news_of N8 (fun q hq => by
      rw [hZ0]
      revert q
      walk_at "m_sub")
    change Fr g' L' h7 _ at F7
    have ldd : @LT.lt Nat _ dx d := Nat.lt_trans l4 lxd
    have hxK := hK7 (x, instObj 172 dx) (by rw [hK0]; walk_at "m_mem")
    have hdxK := hK7 (dx, sDict w t0 t1 t2 t3 d .none (.int 0 t4) (.int 0 t5)) (by rw [hK0]; walk_at "m_mem")
    have ndx3 : (x :: dx :: d :: addrs ns).Nodup := by
      rw [List.nodup_cons, List.nodup_cons]
      refine ⟨fun hm => ?_, hdxK, nd7⟩
      rcases List.mem_cons.mp hm with e | hm
      · exact Nat.ne_of_gt l4 e
      · exact hxK hm
    have hcn : ∀ q ∈ K0, ∀ z ∈ (d, o7) :: chunk ns, @Ne Nat q.1 z.1 := fun q hq z hz e => by
      refine hK7 q hq ?_
      rw [show q.1 = z.1 from e]
      rcases List.mem_cons.mp hz with hz | hz
      · rw [hz]; exact .head _
      · refine .tail _ ?_
        rw [← chunk_as]; exact List.mem_map_of_mem hz
    have hZK : ∀ q ∈ Z0, q ∈ K0 := fun q hq => by rw [hK0]; walk_at "m_mem"
    clear N8
    repeat' (first | (k_unfold; (try dsimp only)) | walk1 | (dsimp only; walk1) | (leave1; (try dsimp only)) | fail "no step")
    unfold Stop
    rename Fr _ _ _ _ => F9
    rename News _ _ _ _ => N10
    have hk9 : H0.StaysIn _ := fun b o e => F9.keep _ _ (kg _ _ e)
    obtain ⟨oL, esL, epL, hLg, hLd, hLr⟩ := F9.ns
    have hap9 : ∀ q ∈ frs, ∀ p ∈ (x, instObj 172 dx) :: (dx, sDict w t0 t1 t2 t3 d .none (.int 0 t4) (.int 0 t5)) :: (d, o7) :: chunk ns, @Ne Nat q.1 p.1 := fun q hq p hp => by
      have hqz : q ∈ Z0 := by rw [hZ0]; exact List.mem_append_left _ hq
      revert p
      refine fa_cons (Nat.ne_of_lt (Nat.lt_trans (l5 q hqz) l4)) (fa_cons (Nat.ne_of_lt (l5 q hqz)) ?_)
      exact hcn q (hZK q hqz)
    have sub4 : ∀ q ∈ (x, instObj 172 dx) :: (dx, sDict w t0 t1 t2 t3 d .none (.int 0 t4) (.int 0 t5)) :: (d, o7) :: chunk ns, q ∈ (x, instObj 172 dx) :: (dx, sDict w t0 t1 t2 t3 d .none (.int 0 t4) (.int 0 t5)) :: (d, o7) :: (L' + 1, oC) :: (wa, W.listOf wvs.toArray e2) :: (chunk ns ++ (frs ++ [(37, tabObj #[]), (44, tabObj #[])])) := fun q hq => by
      revert q
      walk_at "m_sub"
    have sub5 : ∀ q ∈ frs, q ∈ (x, instObj 172 dx) :: (dx, sDict w t0 t1 t2 t3 d .none (.int 0 t4) (.int 0 t5)) :: (d, o7) :: (L' + 1, oC) :: (wa, W.listOf wvs.toArray e2) :: (chunk ns ++ (frs ++ [(37, tabObj #[]), (44, tabObj #[])])) := fun q hq => by
      walk_at "m_mem"
    refine' prepare_spec (rm.less (by decide : 61 ≤ 150)).deeper G hk9 (x := x) (dx := dx) (d := d) (o := o7) (ns := ns) (t := t) (t0 := t0) (t1 := t1) (t2 := t2) (t3 := t3) (pv := .int 0 t4) (fv := .int 0 t5) (frs := (L', oL) :: frs) (Around.frames_deeper rfl) ⟨?f1, rfl, ⟨_, _, hLd⟩, Fs⟩ ?f2 ?f3 ?f4 ?f5 ?f6 ndx3 ho7 lo (by rw [hb.len]; omega) (by rw [hb.ys]; exact W9.nd) hb.sv0 ?f7 ?_
    case f1 => intro e; cases e
    case f2 => exact List.forall_mem_cons.mpr ⟨hLg, fun q hq => (N10 q (sub5 q hq)).1⟩
    case f3 => exact List.forall_mem_cons.mpr ⟨not_in_base k hL, Sfn⟩
    case f4 =>
      intro p hp
      exact List.forall_mem_cons.mpr ⟨Ne.symm (N10 p (sub4 p hp)).2.1, fun q hq => hap9 q hq p hp⟩
    case f5 => exact fun q hq => (N10 q (sub4 q hq)).1
    case f6 => exact fun q hq => fresh_of_stays kg (N10 q (sub4 q hq)).2.2
    case f7 =>
      intro u r hr
      obtain ⟨rp, tp, e1, e2⟩ := hb.sv u r hr
      refine ⟨rp, tp, e1, e2, (tree_at ht ?_).2⟩
      have := (List.getElem?_eq_some_iff.mp hr).1
      rw [hb.len] at this; omega
    intro h10 tk10 fr10 rl ep rdy u0 u1 u2 u3 SU10 Fs10 hfr10 hkeep hS10 frl hN11
    cases fr10 with
    | nil => exact SU10.elim
    | cons q0 qs =>
    obtain ⟨eq1, ⟨sl0, eq2⟩, SU'⟩ := SU10
    obtain ⟨qa, qo⟩ := q0
    dsimp only at eq1 eq2
    subst eq1 eq2
    have Fs11 := TI.Frs.up Fs SU'
    have nfr : ∀ b, b ≠ qa → (∀ q ∈ frs, @Ne Nat q.1 b) → b ∉ List.map (fun x => x.1) ((qa, oL) :: frs) := fun b h1 h2' hm => by
      rcases List.mem_cons.mp hm with e | hm
      · exact h1 e
      · obtain ⟨q, hq, e⟩ := List.mem_map.mp hm
        exact h2' q hq e
    have lfr : ∀ q ∈ frs, @LT.lt Nat _ q.1 qa := fun q hq => l1 q (.tail _ (by rw [hZ0]; exact List.mem_append_left _ hq))
    have F11 := fr_frames (frs := (dx, emptyDict) :: frs) (sl := sl0) F9 hLd hLr (hfr10 _ (.head _)) (fun b z hb e => hkeep b z (fun hm => hb (by
        rcases List.mem_cons.mp hm with e | hm
        · rw [e]; exact .head _
        · exact .tail _ (.tail _ hm))) (fun e2 => hb (by rw [e2]; exact .tail _ (.head _))) e) (fun b hb => by
      rcases List.mem_cons.mp hb with e | hb
      · rw [e]; exact (N10 _ (.tail _ (.head _))).2.2
      · obtain ⟨q, hq, e⟩ := List.mem_map.mp hb
        rw [← e]; exact (N10 q (sub5 q hq)).2.2)
    have N11 : News g' qa h10 ((x, instObj 172 dx) :: (dx, sDict w u0 u1 u2 u3 d (.ref rl) (.int 0 t4) (.int 0 t5)) :: (d, o7) :: (rl, W.listOf rdy.toArray ep) :: (qa + 1, oC) :: (wa, W.listOf wvs.toArray e2) :: (chunk ns ++ (qs ++ [(37, tabObj #[]), (44, tabObj #[])]))) := by
      have base : ∀ q ∈ (qa + 1, oC) :: (wa, W.listOf wvs.toArray e2) :: ([(37, tabObj #[]), (44, tabObj #[])] : List (Addr × Obj)), h10.get? q.1 = some q.2 ∧ q.1 ≠ qa ∧ g'.get? q.1 = none := fun q hq => by
        have hq2 : q ∈ (x, instObj 172 dx) :: (dx, sDict w t0 t1 t2 t3 d .none (.int 0 t4) (.int 0 t5)) :: (d, o7) :: (qa + 1, oC) :: (wa, W.listOf wvs.toArray e2) :: (chunk ns ++ (frs ++ [(37, tabObj #[]), (44, tabObj #[])])) := by
          revert q
          walk_at "m_sub"
        have n := N10 q hq2
        have hqd : q.1 ≠ dx := by
          clear n hq2
          revert q
          walk_at "m_fa"
          · exact Nat.ne_of_lt l7
          · exact Nat.ne_of_lt l6
          · exact Nat.ne_of_lt (l5 _ (by rw [hZ0]; walk_at "m_mem"))
          · exact Nat.ne_of_lt (l5 _ (by rw [hZ0]; walk_at "m_mem"))
        have hqf : ∀ z ∈ frs, @Ne Nat z.1 q.1 := fun z hz => by
          clear n hq2 hqd
          revert q
          exact fa_cons (Nat.ne_of_lt (Nat.lt_succ_of_lt (lfr z hz))) (fa_cons (haf z hz).1 (fa_cons (haf z hz).2.1 (fa_cons (haf z hz).2.2 fa_nil)))
        exact ⟨hkeep _ _ (nfr _ n.2.1 hqf) hqd n.1, n.2⟩
      have s5 : ∀ q ∈ (x, instObj 172 dx) :: (dx, sDict w u0 u1 u2 u3 d (.ref rl) (.int 0 t4) (.int 0 t5)) :: (d, o7) :: chunk ns, h10.get? q.1 = some q.2 ∧ q.1 ≠ qa ∧ g'.get? q.1 = none := fun q hq => by
        have h1 := hS10 q (by
          revert q
          walk_at "m_sub")
        refine ⟨h1, ?_⟩
        clear h1
        revert q
        exact fa_cons (N10 _ (.head _)).2 (fa_cons (N10 _ (.tail _ (.head _))).2 (fa_cons (N10 _ (.tail _ (.tail _ (.head _)))).2 fun q hq => (N10 q (sub4 q (by walk_at "m_mem"))).2))
      refine fa_cons (s5 _ (by walk_at "m_mem")) (fa_cons (s5 _ (by walk_at "m_mem")) (fa_cons (s5 _ (by walk_at "m_mem")) (fa_cons ?_ (fa_cons (base _ (by walk_at "m_mem")) (fa_cons (base _ (by walk_at "m_mem")) (fa_app (fun q hq => s5 q (by walk_at "m_mem")) (fa_app ?_ (fa_cons (base _ (by walk_at "m_mem")) (fa_cons (base _ (by walk_at "m_mem")) fa_nil)))))))))
      · exact newsAddF (news := []) F9 (fun _ q => nomatch q) (hS10 (rl, W.listOf rdy.toArray ep) (by walk_at "m_mem")) frl _ (.head _)
      · intro q hq
        obtain ⟨z, hz, e⟩ := TI.SameUp.fwd SU' q hq
        have n := N10 z (sub5 z hz)
        exact ⟨hfr10 q (.tail _ hq), by rw [e]; exact n.2⟩
    have hqs : ∀ q ∈ qs, @LT.lt Nat _ q.1 dx := fun q hq => by
      obtain ⟨z, hz, e⟩ := TI.SameUp.fwd SU' q hq
      rw [e]; exact l5 z (by rw [hZ0]; exact List.mem_append_left _ hz)
    have frl2 : ∀ q ∈ (x, instObj 172 dx) :: (dx, sDict w t0 t1 t2 t3 d .none (.int 0 t4) (.int 0 t5)) :: (d, o7) :: (qa + 1, oC) :: (wa, W.listOf wvs.toArray e2) :: (chunk ns ++ (frs ++ [(37, tabObj #[]), (44, tabObj #[])])), @Ne Nat q.1 rl := fun q hq => news_ne N10 frl q hq
    clear F9 N10 hkeep hS10
    have mk3 := mark
    dsimp only
    repeat' (first | (k_unfold; (try dsimp only)) | walk1 | (dsimp only; walk1) | (leave1; (try dsimp only)) | fail "no step")
    rename_i av _ oV loV dV _ _ _ lV _ au _ oU loU dU _ _ _ lU _ ar _ oR F12 N12 loR dR _ _ _ lR
    have lV := allLt_mem (l := (x, instObj 172 dx) :: (dx, sDict w u0 u1 u2 u3 d (.ref rl) (.int 0 t4) (.int 0 t5)) :: (d, o7) :: (rl, W.listOf rdy.toArray ep) :: (qa + 1, oC) :: (wa, W.listOf wvs.toArray e2) :: (chunk ns ++ (qs ++ [(37, tabObj #[]), (44, tabObj #[])]))) lV
    have lU := allLt_mem (l := (av, oV) :: (x, instObj 172 dx) :: (dx, sDict w u0 u1 u2 u3 d (.ref rl) (.int 0 t4) (.int 0 t5)) :: (d, o7) :: (rl, W.listOf rdy.toArray ep) :: (qa + 1, oC) :: (wa, W.listOf wvs.toArray e2) :: (chunk ns ++ (qs ++ [(37, tabObj #[]), (44, tabObj #[])]))) lU
    have lR := allLt_mem (l := (au, oU) :: (av, oV) :: (x, instObj 172 dx) :: (dx, sDict w u0 u1 u2 u3 d (.ref rl) (.int 0 t4) (.int 0 t5)) :: (d, o7) :: (rl, W.listOf rdy.toArray ep) :: (qa + 1, oC) :: (wa, W.listOf wvs.toArray e2) :: (chunk ns ++ (qs ++ [(37, tabObj #[]), (44, tabObj #[])]))) lR
    have x1 : @Ne Nat ar (qa + 1) := Nat.ne_of_gt (lR (qa + 1, oC) (by walk_at "m_mem"))
    have x2 : @Ne Nat au (qa + 1) := Nat.ne_of_gt (lU (qa + 1, oC) (by walk_at "m_mem"))
    have x3 : @Ne Nat av (qa + 1) := Nat.ne_of_gt (lV (qa + 1, oC) (by walk_at "m_mem"))
    have x4 : @Ne Nat dx (qa + 1) := Nat.ne_of_gt l7
    have x5 : @Ne Nat x (qa + 1) := Nat.ne_of_gt (Nat.lt_trans l7 l4)
    have x6 : @Ne Nat d (qa + 1) := Nat.ne_of_gt (Nat.lt_trans l7 ldd)
    have x7 : @Ne Nat rl (qa + 1) := Ne.symm (frl2 (qa + 1, oC) (by walk_at "m_mem"))
    have lwa : @LT.lt Nat _ wa qa := l1 _ (.head _)
    have x8 : @Ne Nat wa (qa + 1) := Nat.ne_of_lt (Nat.lt_succ_of_lt lwa)
    have hZq : ∀ q ∈ qs ++ [(37, tabObj #[]), (44, tabObj #[])], @LT.lt Nat _ q.1 qa := fun q hq => by
      rcases List.mem_append.mp hq with hq | hq
      · obtain ⟨z, hz, e⟩ := TI.SameUp.fwd SU' q hq
        rw [e]; exact lfr z hz
      · exact l1 q (.tail _ (by rw [hZ0]; exact List.mem_append_right _ hq))
    have x9 : ∀ q ∈ chunk ns ++ (qs ++ [(37, tabObj #[]), (44, tabObj #[])]), @Ne Nat q.1 (qa + 1) := fun q hq => by
      rcases List.mem_append.mp hq with hq | hq
      · exact Ne.symm (hcn (qa + 1, oC) (by rw [hK0]; walk_at "m_mem") q (.tail _ hq))
      · exact Nat.ne_of_lt (Nat.lt_succ_of_lt (hZq q hq))
    repeat' (first | (k_unfold; (try dsimp only)) | walk1 | (dsimp only; walk1) | (leave1; (try dsimp only)) | fail "no step")
    unfold Stop
    rename Fr _ _ _ _ => F13
    rename News _ _ _ _ => N13
    obtain ⟨oC, hoC, N13⟩ : ∃ oC : Obj, oC.data = Data.cell (some (.ref ar)) ∧ News g' qa _ ((ar, oR) :: (au, oU) :: (av, oV) :: (x, instObj 172 dx) :: (dx, sDict w u0 u1 u2 u3 d (.ref rl) (.int 0 t4) (.int 0 t5)) :: (d, o7) :: (rl, W.listOf rdy.toArray ep) :: (qa + 1, oC) :: (wa, W.listOf wvs.toArray e2) :: (chunk ns ++ (qs ++ [(37, tabObj #[]), (44, tabObj #[])]))) := ⟨_, by assumption, N13⟩
    obtain ⟨m0, hm0, F13⟩ : ∃ m0 : Str → Option Value, m0 = _ ∧ Fr g' qa _ m0 := ⟨_, rfl, F13⟩
    obtain ⟨BA, hBA⟩ : ∃ BA : List Addr, BA = ar :: au :: av :: (qa + 1) :: wa :: x :: dx :: d :: rl :: (addrs ns ++ qs.map (·.1)) := ⟨_, rfl⟩
    obtain ⟨Inv, hInv⟩ : ∃ Inv : List Int → List Nat → List Nat → Heap → Prop, Inv = JI9 prog w t wd g' qa ar au av x dx d rl wa o7 oC wvs e2 ns qs BA m0 := ⟨_, rfl⟩
    have hT0q : ∀ q ∈ qs, ∃ z ∈ frs, q.1 = z.1 := fun q hq => by
      obtain ⟨z, hz, e⟩ := TI.SameUp.fwd SU' q hq
      exact ⟨z, hz, e⟩
    have hrl : ∀ a ∈ x :: dx :: d :: addrs ns, a ≠ rl := fa_cons (frl2 _ (.head _)) (fa_cons (frl2 _ (.tail _ (.head _))) (fa_cons (frl2 _ (.tail _ (.tail _ (.head _)))) fun a ha => by
        rw [← chunk_as] at ha
        obtain ⟨q, hq, e⟩ := List.mem_map.mp ha
        rw [← e]; exact frl2 q (by walk_at "m_mem")))
    have hSA : (x :: dx :: d :: rl :: addrs ns).Nodup := by
      obtain ⟨n1, nd2⟩ := List.nodup_cons.mp ndx3
      obtain ⟨n2, nd3⟩ := List.nodup_cons.mp nd2
      obtain ⟨n3, nd4⟩ := List.nodup_cons.mp nd3
      refine List.nodup_cons.mpr ⟨?_, List.nodup_cons.mpr ⟨?_, List.nodup_cons.mpr ⟨?_, List.nodup_cons.mpr ⟨?_, nd4⟩⟩⟩⟩
      · exact nm_cons (fun e => n1 (e ▸ .head _)) (nm_cons (fun e => n1 (e ▸ .tail _ (.head _))) (nm_cons (hrl x (.head _)) fun hm => n1 (.tail _ (.tail _ hm))))
      · exact nm_cons (fun e => n2 (e ▸ .head _)) (nm_cons (hrl dx (.tail _ (.head _))) fun hm => n2 (.tail _ hm))
      · exact nm_cons (hrl d (.tail _ (.tail _ (.head _)))) n3
      · exact fun hm => hrl rl (.tail _ (.tail _ (.tail _ hm))) rfl
    have hSlt : ∀ z ∈ x :: dx :: d :: rl :: addrs ns, @LT.lt Nat _ z av := fa_cons (lV _ (.head _)) (fa_cons (lV _ (.tail _ (.head _))) (fa_cons (lV _ (.tail _ (.tail _ (.head _)))) (fa_cons (lV _ (.tail _ (.tail _ (.tail _ (.head _))))) fun z hz => by
        rw [← chunk_as] at hz
        obtain ⟨q, hq, e⟩ := List.mem_map.mp hz
        rw [← e]; exact lV q (by walk_at "m_mem"))))
    have lvu : @LT.lt Nat _ av au := lU _ (.head _)
    have lur : @LT.lt Nat _ au ar := lR _ (.head _)
    have hwS : wa ∉ x :: dx :: d :: rl :: addrs ns := nm_cons (Nat.ne_of_lt (Nat.lt_trans l6 l4)) (nm_cons (Nat.ne_of_lt l6) (nm_cons (Nat.ne_of_lt (Nat.lt_trans l6 ldd)) (nm_cons (frl2 (wa, W.listOf wvs.toArray e2) (by walk_at "m_mem")) fun hm => by
        rw [← chunk_as] at hm
        obtain ⟨q, hq, e⟩ := List.mem_map.mp hm
        exact hcn (wa, W.listOf wvs.toArray e2) (by rw [hK0]; walk_at "m_mem") q (.tail _ hq) e.symm)))
    have hfS : ∀ q ∈ Z0, q.1 ∉ x :: dx :: d :: rl :: addrs ns := fun q hq => nm_cons (Nat.ne_of_lt (Nat.lt_trans (l5 q hq) l4)) (nm_cons (Nat.ne_of_lt (l5 q hq)) (nm_cons (Nat.ne_of_lt (Nat.lt_trans (l5 q hq) ldd)) (nm_cons (frl2 q (by rw [← hZ0]; walk_at "m_mem")) fun hm => by
        rw [← chunk_as] at hm
        obtain ⟨z, hz, e⟩ := List.mem_map.mp hm
        exact hcn q (hZK q hq) z (.tail _ hz) e.symm)))
    have hqS : ∀ q ∈ qs, q.1 ∉ x :: dx :: d :: rl :: addrs ns := fun q hq => by
      obtain ⟨z, hz, e⟩ := hT0q q hq
      rw [e]; exact hfS z (by rw [hZ0]; exact List.mem_append_left _ hz)
    have hcS : (qa + 1) ∉ x :: dx :: d :: rl :: addrs ns := nm_cons (Ne.symm x5) (nm_cons (Ne.symm x4) (nm_cons (Ne.symm x6) (nm_cons (Ne.symm x7) fun hm => by
        rw [← chunk_as] at hm
        obtain ⟨z, hz, e⟩ := List.mem_map.mp hm
        exact x9 z (List.mem_append_left _ hz) e)))
    have hBS : ∀ a, (a ∈ ar :: au :: av :: (qa + 1) :: wa :: qs.map (·.1) ∨ a ∉ BA) → a ∉ x :: dx :: d :: rl :: addrs ns := by
      rintro a (ha | ha)
      · revert a
        refine fa_cons (fun hm => ?_) (fa_cons (fun hm => ?_) (fa_cons (fun hm => ?_) (fa_cons hcS (fa_cons hwS ?_))))
        · exact Nat.lt_irrefl _ (Nat.lt_trans (hSlt _ hm) (Nat.lt_trans lvu lur))
        · exact Nat.lt_irrefl _ (Nat.lt_trans (hSlt _ hm) lvu)
        · exact Nat.lt_irrefl _ (hSlt _ hm)
        · intro a ha
          obtain ⟨q, hq, e⟩ := List.mem_map.mp ha
          exact fun hm => hqS q hq (e ▸ hm)
      · refine fun hm => ha ?_
        rw [hBA]
        revert a
        intro a _
        exact (show ∀ a ∈ x :: dx :: d :: rl :: addrs ns, a ∈ ar :: au :: av :: (qa + 1) :: wa :: x :: dx :: d :: rl :: (addrs ns ++ qs.map (·.1)) by walk_at "m_sub") a
    have hapT : Apart BA [] [(37, tabObj #[]), (44, tabObj #[])] := by
      refine ⟨(fun _ q => nomatch q), fun q hq => ?_, (fun _ q => nomatch q)⟩
      have hqZ : q ∈ Z0 := by rw [hZ0]; exact List.mem_append_right _ hq
      have hqq := hZq q (List.mem_append_right _ hq)
      have hqv := lV q (by walk_at "m_mem")
      have hS := hfS q hqZ
      rw [hBA]
      refine nm_cons (Nat.ne_of_lt (Nat.lt_trans hqv (Nat.lt_trans lvu lur))) (nm_cons (Nat.ne_of_lt (Nat.lt_trans hqv lvu)) (nm_cons (Nat.ne_of_lt hqv) (nm_cons (Nat.ne_of_lt (Nat.lt_succ_of_lt hqq)) (nm_cons ?_ ?_))))
      · have w37 : @Ne Nat wa 37 := ne_of_data hl hs1 (by intro q; cases q)
        have w44 : @Ne Nat wa 44 := ne_of_data hl hs2 (by intro q; cases q)
        clear hqZ hqq hqv hS
        revert q
        exact fa_cons (Ne.symm w37) (fa_cons (Ne.symm w44) fa_nil)
      · have hn : q.1 ∉ qs.map (·.1) := fun hm => by
          obtain ⟨z, hz, e⟩ := List.mem_map.mp hm
          obtain ⟨z2, hz2, e2'⟩ := hT0q z hz
          have hf := haf z2 hz2
          clear hqZ hqq hqv hS
          revert q
          exact fa_cons (fun _ e => hf.2.1 (e2'.symm.trans e)) (fa_cons (fun _ e => hf.2.2 (e2'.symm.trans e)) fa_nil)
        rw [← List.cons_append, ← List.cons_append, ← List.cons_append, ← List.cons_append]
        exact nm_app hS hn
    refine whl_start 0 (whl_run (t := t) (s := ⟨hp0, gn0, dr0, tk0, os0⟩) PassesOwn.never Inv ?stop ?step (run_start ht h2 h6) _ _ ?h0 0)
    case h0 =>
      rw [hInv]
      exact ⟨m0, oV, oU, oR, [], [], [], ns, rdy, ep, u0, u1, u2, u3, t4, t5, 0, [], _, fun _ _ _ _ _ _ _ _ _ _ => rfl, F13, N13, dV, dU, dR, fun _ _ _ => .inl ⟨rfl, rfl⟩, fun _ _ _ => .inl ⟨rfl, rfl⟩, RowsOk.nil _ _ _ _ _, Nat.le_refl _, Nat.le_refl _, Nat.le_refl _, Nat.zero_le _, rfl, hb.nps, by rw [← hb.start]; exact hN11, SeqOk.nil t, .inl rfl, fun q => absurd rfl q, hapT⟩
    case stop =>
      intro np pre h20 tk20 hall hi
      rw [hInv] at hi
      obtain ⟨m', oV, oU, oR, kV, kU, kR, nsI, rdy, ep, u0, u1, u2, u3, u4, u5, pn, Z, T, hm, F20, N20, dV, dU, dR, nV, nU, nR, lkV, lkU, lkR, lpre, hkey, hnp, hnam, hseq, hT, hTU, hap⟩ := hi
      rw [over9 hm, hm0] at F20
      generalize m' (Str.ofString "up") = o1 at F20
      generalize m' (Str.ofString "rest") = o2 at F20
      generalize m' (Str.ofString "second") = o3 at F20
      generalize m' (Str.ofString "left") = o4 at F20
      generalize m' (Str.ofString "first") = o5 at F20
      generalize m' (Str.ofString "low") = o6 at F20
      generalize m' (Str.ofString "top") = o8 at F20
      generalize m' (Str.ofString "way") = o9 at F20
      generalize m' (Str.ofString "batch") = o10 at F20
      (try clear F12); (try clear N12); (try clear F13); (try clear N13); (try clear F11); (try clear N11)
      dsimp only
      repeat' (first | (k_unfold; (try dsimp only)) | walk1 | (dsimp only; walk1) | (leave1; (try dsimp only)) | fail "no step")
      unfold Stop
      rename Fr _ _ _ _ => F21
      rename News _ _ _ _ => N21
      have hk21 : H0.StaysIn h20 := fun b o e => F21.keep _ _ (kg _ _ e)
      have nx : H0.get? x = none := fresh_of_stays kg (N21 _ (List.mem_of_getElem? (i := 3) rfl)).2.2
      have ndx : H0.get? dx = none := fresh_of_stays kg (N21 _ (List.mem_of_getElem? (i := 4) rfl)).2.2
      have nrl : H0.get? rl = none := fresh_of_stays kg (N21 _ (List.mem_of_getElem? (i := 6) rfl)).2.2
      have hrz : rdy.length = 0 := hnam.1
      refine active_spec (rm.less (by decide : 51 ≤ 150)).deeper G hk21 (News.get N21 (List.mem_of_getElem? (i := 3) rfl)) (News.get N21 (List.mem_of_getElem? (i := 4) rfl)) (News.get N21 (List.mem_of_getElem? (i := 6) rfl)) nx ndx nrl (by omega) (by omega) ?_
      intro h22 tk22 k22
      have F22 := F21.keeps k22
      have N22 := N21.grown k22
      have hdz : decide (0 < rdy.length) = false := decide_eq_false (by omega)
      rw [hdz]
      clear F21 N21
      repeat' (first | (k_unfold; (try dsimp only)) | walk1 | (dsimp only; walk1) | (leave1; (try dsimp only)) | fail "no step")
      unfold Stop
      rename Fr _ _ _ _ => F23
      rename News _ _ _ _ => N23
      have N24 := news_of N23 (b := (ar, oR) :: (qa + 1, oC) :: (wa, W.listOf wvs.toArray e2) :: (qs ++ (Z ++ T))) (fun q hq => by
        revert q
        walk_at "m_sub")
      clear N23
      refine LCg.ListComp_U (F₀ := F23) (by with_unfolding_all rfl) (by decide) (by rfl) (by decide) (by rfl) ?_
      walk1
      rename Fr _ _ _ _ => F25
      rename News _ _ _ _ => N25
      refine LCg.CompSrc.ledger rfl F25 N25 (.tail _ (.tail _ (.head _))) hsz ?_
      intro g2
      refine compR_ind (fun i ys => ys.length = i ∧ ∀ (v : Nat) (y : Str), v < i → (wys t)[v]? = some y → ∃ a, valueAt kR y = some (.ref a) ∧ ys[v]? = some (.ref a)) ⟨rfl, fun v y q => absurd q (Nat.not_lt_zero _)⟩ ?_ ?_
      · rintro ys ⟨hyl, hys⟩ D h30 tk30 F30 N30 o1
        clear F25 N25
        have od := off1_mem o1
        rw [List.size_toArray, hwl] at hyl hys
        dsimp only
        have hTm : (∃ o, (37, o) ∈ T) ∧ ∃ o, (44, o) ∈ T := by
          rcases hT with hT | hT
          · rw [hT]; exact ⟨⟨_, .head _⟩, ⟨_, .tail _ (.head _)⟩⟩
          · cases hT with
            | mk c1 c2 o1 o2 d1 d2 => exact ⟨⟨_, .head _⟩, ⟨_, .tail _ (.head _)⟩⟩
        obtain ⟨⟨ot1, hot1⟩, ⟨ot2, hot2⟩⟩ := hTm
        have hM : ∀ a, a ≠ wa → (∀ q ∈ qs, @Ne Nat q.1 a) → a ≠ 37 → a ≠ 44 → a ∉ ((wa, W.listOf wvs.toArray e2) :: Z0).map (·.1) := fun a n1 n2 n3 n4 hm => by
          rcases List.mem_cons.mp hm with e | hm
          · exact n1 e
          · obtain ⟨z, hz, e⟩ := List.mem_map.mp hm
            rw [hZ0] at hz
            rcases List.mem_append.mp hz with hz | hz
            · obtain ⟨sl, hz'⟩ := TI.SameUp.back SU' z hz
              exact n2 _ hz' e
            · rcases List.mem_cons.mp hz with hz | hz
              · exact n3 (by rw [← e, hz])
              · exact n4 (by rw [← e, List.mem_singleton.mp hz])
        have hpre : pre ≠ [] := fun e => by
          have := hall 0 (Nat.zero_le _)
          rw [e] at this; cases this
        refine h h30 tk30 D qs ys Z T SU' Fs11 (fun q hq => (N30 q (by (try rw [hq]); walk_at "m_mem")).1) ?_ (N30 _ (.head _)).1 ?_ ⟨hyl, ?_⟩ ?_ (hTU hpre) (fun q hq => (N30 q (by (try rw [hq]); walk_at "m_mem")).1)
        · intro b z hb n3 n4 e
          by_cases hbw : b = wa
          · rw [hbw] at e ⊢
            rw [hl] at e; cases e
            exact (N30 (wa, W.listOf wvs.toArray e2) (by walk_at "m_mem")).1
          · refine kept_many hg F30 b z (hM b hbw (fun q hq => ?_) n3 n4) e
            obtain ⟨z', hz', e'⟩ := hT0q q hq
            intro e2'
            exact hb (by rw [← e2', e']; exact List.mem_map_of_mem hz')
        · refine fresh_many hg (N30 _ (.head _)).2.2 (hM D (Ne.symm (od (wa, W.listOf wvs.toArray e2) (by walk_at "m_mem"))) (fun q hq => od q (by (try rw [hq]); walk_at "m_mem")) (Ne.symm (od (37, ot1) (by walk_at "m_mem"))) (Ne.symm (od (44, ot2) (by walk_at "m_mem"))))
        · intro v hv
          obtain ⟨y, hy⟩ : ∃ y, (wys t)[v]? = some y := ⟨_, List.getElem?_eq_getElem (by rw [wys_len]; exact Nat.lt_succ_of_le hv)⟩
          obtain ⟨a, l1, l2, vs1, vs2, hval, m1, m2, m3, i1, i2⟩ := nR v y (hall v hv) hy
          obtain ⟨a', hval', hya⟩ := hys v y (Nat.lt_succ_of_le hv) hy
          rw [hval] at hval'
          have ea : a = a' := by injection hval' with q; injection q
          have pl := plain_law ht h6 hw hseq hall hv
          rw [← ea] at hya
          exact ⟨a, l1, l2, vs1, vs2, hya, m1, m2, m3, by rw [← pl]; exact i1, by rw [← pl]; exact i2⟩
        · intro q hq
          have n := N30 q (by (try rw [hq]); walk_at "m_mem")
          refine ⟨n.1, fresh_many hg n.2.2 (hM q.1 (fun e => hap.z q hq (by rw [e, hBA]; walk_at "m_mem")) (fun z hz e => hap.z q hq (by rw [← show z.1 = q.1 from e, hBA]; have := List.mem_map_of_mem (f := (·.1)) hz; walk_at "m_mem")) (hap.zt q hq (37, ot1) hot1) (hap.zt q hq (44, ot2) hot2))⟩
      · rintro i ys v I oI C oC' D m₂ h7 tk7 E' hi ⟨hyl, hys⟩ hP hC hx F7 N7 off ne
        clear F25 N25
        rw [List.size_toArray, hwl] at hi
        obtain ⟨y, hy⟩ : ∃ y, (wys t)[i]? = some y := ⟨_, List.getElem?_eq_getElem (by rw [wys_len]; exact hi)⟩
        obtain ⟨ty, hty⟩ := strs_get hI hy
        obtain rfl : v = .str y ty := by
          rw [List.getElem?_toArray, hty] at hP
          exact (Option.some.inj hP).symm
        obtain ⟨a, l1, l2, vs1, vs2, hval, _⟩ := nR i y (hall i (by omega)) hy
        repeat' (first | (k_unfold; (try dsimp only)) | walk1 | (dsimp only; walk1) | (leave1; (try dsimp only)) | fail "no step")
        unfold Stop
        rename Fr _ _ _ _ => F9
        rename News _ _ _ _ => N9
        refine LCg.CompEnd.intro F9 N9 ((ar, oR) :: (qa + 1, oC) :: (wa, W.listOf wvs.toArray e2) :: (qs ++ (Z ++ T))) ?_ off (.inr ⟨_, .tail _ (.tail _ (.head _)), rfl, _, rfl⟩) ⟨rfl, by rw [List.length_append, hyl]; rfl, ?_⟩
        · intro q hq
          first
            | exact hq
            | exact .tail _ hq
        · intro v z hv hz
          by_cases hvi : v < i
          · obtain ⟨a', h5, h6⟩ := hys v z hvi hz
            exact ⟨a', h5, by rw [List.getElem?_append_left (by omega)]; exact h6⟩
          · obtain rfl : v = i := Nat.le_antisymm (Nat.le_of_lt_succ hv) (Nat.le_of_not_lt hvi)
            have : y = z := Option.some.inj (hy.symm.trans hz)
            rw [← this]
            exact ⟨a, hval, by rw [List.getElem?_append_right (by omega), hyl, Nat.sub_self]; rfl⟩
    case step =>
      intro np bt pre h20 tk20 hbne hbl hbt hi
      rw [hInv] at hi
      obtain ⟨m', oV, oU, oR, kV, kU, kR, nsI, rdy, ep, u0, u1, u2, u3, u4, u5, pn, Z, T, hm, F20, N20, dV, dU, dR, nV, nU, nR, lkV, lkU, lkR, lpre, hkey, hnp, hnam, hseq, hT, hTU, hap⟩ := hi
      rw [over9 hm, hm0] at F20
      generalize m' (Str.ofString "up") = o1 at F20
      generalize m' (Str.ofString "rest") = o2 at F20
      generalize m' (Str.ofString "second") = o3 at F20
      generalize m' (Str.ofString "left") = o4 at F20
      generalize m' (Str.ofString "first") = o5 at F20
      generalize m' (Str.ofString "low") = o6 at F20
      generalize m' (Str.ofString "top") = o8 at F20
      generalize m' (Str.ofString "way") = o9 at F20
      generalize m' (Str.ofString "batch") = o10 at F20
      (try clear F12); (try clear N12); (try clear F13); (try clear N13); (try clear F11); (try clear N11)
      dsimp only
      repeat' (first | (k_unfold; (try dsimp only)) | walk1 | (dsimp only; walk1) | (leave1; (try dsimp only)) | fail "no step")
      unfold Stop
      rename Fr _ _ _ _ => F21
      rename News _ _ _ _ => N21
      have hk21 : H0.StaysIn h20 := fun b o e => F21.keep _ _ (kg _ _ e)
      have nx : H0.get? x = none := fresh_of_stays kg (N21 _ (List.mem_of_getElem? (i := 3) rfl)).2.2
      have ndx : H0.get? dx = none := fresh_of_stays kg (N21 _ (List.mem_of_getElem? (i := 4) rfl)).2.2
      have nrl : H0.get? rl = none := fresh_of_stays kg (N21 _ (List.mem_of_getElem? (i := 6) rfl)).2.2
      refine active_spec (rm.less (by decide : 51 ≤ 150)).deeper G hk21 (News.get N21 (List.mem_of_getElem? (i := 3) rfl)) (News.get N21 (List.mem_of_getElem? (i := 4) rfl)) (News.get N21 (List.mem_of_getElem? (i := 6) rfl)) nx ndx nrl (by rw [hnam.1]; omega) (by omega) ?_
      intro h22 tk22 k22
      have F22 := F21.keeps k22
      have N22 := N21.grown k22
      have hrpos : 0 < rdy.length := by rw [hnam.1]; exact List.length_pos_iff.mpr hbne
      rw [decide_eq_true hrpos]
      clear F21 N21
      repeat' (first | (k_unfold; (try dsimp only)) | walk1 | (dsimp only; walk1) | (leave1; (try dsimp only)) | fail "no step")
      unfold Stop
      rename Fr _ _ _ _ => F23
      rename News _ _ _ _ => N23
      have had := keys_addrs hkey
      have hyy := keys_y hkey
      have hkk := keys_kvs hkey
      have hk22 : H0.StaysIn h22 := fun b o e => F23.keep _ _ (kg _ _ e)
      have subS : ∀ q ∈ (x, instObj 172 dx) :: (dx, sDict w u0 u1 u2 u3 d (.ref rl) (.int pn u4) (.int pn u5)) :: (d, o7) :: (rl, W.listOf rdy.toArray ep) :: chunk nsI, q ∈ (ar, oR) :: (au, oU) :: (av, oV) :: (x, instObj 172 dx) :: (dx, sDict w u0 u1 u2 u3 d (.ref rl) (.int pn u4) (.int pn u5)) :: (d, o7) :: (rl, W.listOf rdy.toArray ep) :: (qa + 1, oC) :: (wa, W.listOf wvs.toArray e2) :: (chunk nsI ++ (qs ++ (Z ++ T))) := fun q hq => by
        revert q
        walk_at "m_sub"
      refine ready_spec (rm.less (by decide : 51 ≤ 150)).deeper G hk22 (t0 := u0) (t1 := u1) (t2 := u2) (t3 := u3) (t4 := u4) (t5 := u5) (pn := pn) (fn := pn) (ep := ep) (ns := nsI) (bt := bt) (fun q hq => (N23 q (subS q hq)).1) (fun q hq => fresh_of_stays kg (N23 q (subS q hq)).2.2) (by rw [had]; exact hSA) (by rw [hkk]; exact ho7) lo (by rw [hnam.1]; omega) hrpos (by rw [hyy, hb.ys]; exact W9.nd) hnam.1 hnam.2 ?_
      intro h24 tk24 rb nsJ v0 v1 v2 v3 v4 v5 k24 grb frb S24 hkJ hnpJ
      obtain ⟨F24, N24⟩ := after_many (K := (ar, oR) :: (au, oU) :: (av, oV) :: (qa + 1, oC) :: (wa, W.listOf wvs.toArray e2) :: (qs ++ (Z ++ T))) (S := (x, instObj 172 dx) :: (dx, sDict w u0 u1 u2 u3 d (.ref rl) (.int pn u4) (.int pn u5)) :: (d, o7) :: (rl, W.listOf rdy.toArray ep) :: chunk nsI)
        (S' := (x, instObj 172 dx) :: (dx, sDict w v0 v1 v2 v3 d (.ref rl) (.int (pn + rdy.length) v4) (.int pn v5)) :: (d, o7) :: (rl, W.listOf #[] (ep + 1)) :: chunk nsJ) F23 (news_of N23 (fun q hq => by
          revert q
          walk_at "m_sub")) (h' := h24)
        (fun q hq hm => hBS q.1 (by
            clear hm
            revert q
            exact fa_cons (.inl (.head _)) (fa_cons (.inl (.tail _ (.head _))) (fa_cons (.inl (.tail _ (.tail _ (.head _)))) (fa_cons (.inl (.tail _ (.tail _ (.tail _ (.head _))))) (fa_cons (.inl (.tail _ (.tail _ (.tail _ (.tail _ (.head _)))))) (fa_app (fun q hq => .inl (.tail _ (.tail _ (.tail _ (.tail _ (.tail _ (List.mem_map_of_mem hq))))))) (fa_app (fun q hq => .inr (hap.z q hq)) (fun q hq => .inr (hap.t q hq))))))))) (by
            have h9 : q.1 ∈ x :: dx :: d :: rl :: (chunk nsI).map (·.1) := hm
            rw [chunk_as, had] at h9
            exact h9))
        (fa_cons (.head _) (fa_cons (.tail _ (.head _)) (fa_cons (.tail _ (.tail _ (.head _))) (fa_cons (.tail _ (.tail _ (.tail _ (.head _)))) fun q hq => .tail _ (.tail _ (.tail _ (.tail _ (by
            show q.1 ∈ (chunk nsI).map (·.1)
            rw [chunk_as, ← keys_addrs hkJ, ← chunk_as]
            exact List.mem_map_of_mem hq))))))))
        (fun b' z hb' e => k24 b' z (fun hm => hb' (by
            show b' ∈ x :: dx :: d :: rl :: (chunk nsI).map (·.1)
            rw [chunk_as]
            exact hm)) e) S24
      have hrbL := news_ne N23 frb
      have N24 := newsAddF F23 N24 grb frb
      obtain ⟨Y, hY⟩ : ∃ Y : List (Addr × Obj), Y = (x, instObj 172 dx) :: (dx, sDict w v0 v1 v2 v3 d (.ref rl) (.int (pn + rdy.length) v4) (.int pn v5)) :: (d, o7) :: (rl, W.listOf #[] (ep + 1)) :: (wa, W.listOf wvs.toArray e2) :: (chunk nsJ ++ qs) := ⟨_, rfl⟩
      have N24 := news_of N24 (b := (rb, { cls := .type "tuple", data := .seq rdy.toArray }) :: (ar, oR) :: (au, oU) :: (av, oV) :: (qa + 1, oC) :: ((Y ++ Z) ++ T)) (fun q hq => by
        rw [hY] at hq
        revert q
        walk_at "m_sub")
      clear F23 N23
      have mk7 := mark
      have mk8 := mark
      repeat' (first | (k_unfold; (try dsimp only)) | walk1 | (dsimp only; walk1) | (leave1; (try dsimp only)) | fail "no step")
      unfold Stop
      rename Fr _ _ _ _ => F25
      with_unfolding_all refine' For_invVF F25 ?k1 ?k2 ?_
      case k1 => exact rfl
      case k2 => exact rfl
      repeat' (first | (k_unfold; (try dsimp only)) | walk1 | (dsimp only; walk1) | (leave1; (try dsimp only)) | fail "no step")
      unfold Stop
      rename Fr _ _ _ _ => F26
      rename News _ _ _ _ => N26
      have hIy : ∀ (b : Nat) (r : NR), nsI[b]? = some r → (wys t)[b]? = some r.y := fun b r e => by
        rw [← hb.ys, ← hyy, List.getElem?_map, e]; rfl
      have hgrb := News.get N26 (.head _)
      have hkJ2 : nsJ.map NR.key = ns.map NR.key := hkJ.trans hkey
      have hBK : ∀ a ∈ BA, a = ar ∨ a = au ∨ a = av ∨ a = qa + 1 ∨ ∃ q ∈ Y, q.1 = a := fun a ha => by
        rw [hBA] at ha
        rw [hY]
        revert a
        refine fa_cons (.inl rfl) (fa_cons (.inr (.inl rfl)) (fa_cons (.inr (.inr (.inl rfl))) (fa_cons (.inr (.inr (.inr (.inl rfl)))) (fa_cons (.inr (.inr (.inr (.inr ⟨(wa, W.listOf wvs.toArray e2), by walk_at "m_mem", rfl⟩)))) (fa_cons (.inr (.inr (.inr (.inr ⟨_, .head _, rfl⟩)))) (fa_cons (.inr (.inr (.inr (.inr ⟨_, .tail _ (.head _), rfl⟩)))) (fa_cons (.inr (.inr (.inr (.inr ⟨_, .tail _ (.tail _ (.head _)), rfl⟩)))) (fa_cons (.inr (.inr (.inr (.inr ⟨_, .tail _ (.tail _ (.tail _ (.head _))), rfl⟩)))) (fa_app (fun a ha => ?_) (fun a ha => ?_))))))))))
        · rw [← keys_addrs hkJ2, ← chunk_as] at ha
          obtain ⟨q, hq, e⟩ := List.mem_map.mp ha
          exact .inr (.inr (.inr (.inr ⟨q, by walk_at "m_mem", e⟩)))
        · obtain ⟨q, hq, e⟩ := List.mem_map.mp ha
          exact .inr (.inr (.inr (.inr ⟨q, by walk_at "m_mem", e⟩)))
      have hYB : ∀ q ∈ Y, q.1 ∈ BA := by
        rw [hY, hBA]
        refine fa_cons (by walk_at "m_mem") (fa_cons (by walk_at "m_mem") (fa_cons (by walk_at "m_mem") (fa_cons (by walk_at "m_mem") (fa_cons (by walk_at "m_mem") (fa_app (fun q hq => ?_) (fun q hq => ?_))))))
        · have : q.1 ∈ addrs ns := by rw [← keys_addrs hkJ2, ← chunk_as]; exact List.mem_map_of_mem hq
          walk_at "m_mem"
        · have : q.1 ∈ qs.map (·.1) := List.mem_map_of_mem hq
          walk_at "m_mem"
      have hYlt : ∀ q ∈ Y, @LT.lt Nat _ q.1 av := by
        rw [hY]
        refine fa_cons (hSlt x (by walk_at "m_mem")) (fa_cons (hSlt dx (by walk_at "m_mem")) (fa_cons (hSlt d (by walk_at "m_mem")) (fa_cons (hSlt rl (by walk_at "m_mem")) (fa_cons (lV (wa, W.listOf wvs.toArray e2) (by walk_at "m_mem")) (fa_app (fun q hq => ?_) (fun q hq => lV q (by walk_at "m_mem")))))))
        have : q.1 ∈ addrs ns := by rw [← keys_addrs hkJ2, ← chunk_as]; exact List.mem_map_of_mem hq
        exact hSlt q.1 (by walk_at "m_mem")
      have hrbB : ∀ a ∈ BA, a ≠ rb := fun a ha => by
        rcases hBK a ha with e | e | e | e | ⟨q, hq, e⟩
        · rw [e]; exact hrbL (ar, _) (.head _)
        · rw [e]; exact hrbL (au, _) (.tail _ (.head _))
        · rw [e]; exact hrbL (av, _) (.tail _ (.tail _ (.head _)))
        · rw [e]; exact hrbL (qa + 1, oC) (by walk_at "m_mem")
        · rw [← e]
          rw [hY] at hq
          clear e ha
          revert q
          refine fa_cons (hrbL (x, _) (List.mem_of_getElem? (i := 3) rfl)) (fa_cons (hrbL (dx, sDict w u0 u1 u2 u3 d (.ref rl) (.int pn u4) (.int pn u5)) (List.mem_of_getElem? (i := 4) rfl)) (fa_cons (hrbL (d, _) (List.mem_of_getElem? (i := 5) rfl)) (fa_cons (hrbL (rl, W.listOf rdy.toArray ep) (List.mem_of_getElem? (i := 6) rfl)) (fa_cons (hrbL (wa, _) (List.mem_of_getElem? (i := 8) rfl)) (fa_app (fun q hq => ?_) (fun q hq => hrbL q (by walk_at "m_mem")))))))
          have h5 : q.1 ∈ (chunk nsI).map (·.1) := by
            rw [chunk_as, ← keys_addrs hkJ, ← chunk_as]; exact List.mem_map_of_mem hq
          obtain ⟨q', hq', e'⟩ := List.mem_map.mp h5
          rw [← e']; exact hrbL q' (by walk_at "m_mem")
      have hap1 : Apart (rb :: BA) Z T := ⟨fun q hq hm => (List.mem_cons.mp hm).elim (hrbL q (by (try rw [hq]); walk_at "m_mem")) (hap.z q hq), fun q hq hm => (List.mem_cons.mp hm).elim (hrbL q (by (try rw [hq]); walk_at "m_mem")) (hap.t q hq), hap.zt⟩
      have hYA : ∀ q ∈ Y, @Ne Nat q.1 ar ∧ @Ne Nat q.1 au ∧ @Ne Nat q.1 av := fun q hq => by
        have h5 := hYlt q hq
        exact ⟨Nat.ne_of_lt (Nat.lt_trans h5 (Nat.lt_trans lvu lur)), Nat.ne_of_lt (Nat.lt_trans h5 lvu), Nat.ne_of_lt h5⟩
      have hra : @Ne Nat rb ar ∧ @Ne Nat rb au ∧ @Ne Nat rb av := ⟨Ne.symm (hrbB ar (by rw [hBA]; walk_at "m_mem")), Ne.symm (hrbB au (by rw [hBA]; walk_at "m_mem")), Ne.symm (hrbB av (by rw [hBA]; walk_at "m_mem"))⟩
      have haa : @Ne Nat ar au ∧ @Ne Nat ar av ∧ @Ne Nat au av := ⟨Nat.ne_of_gt lur, Nat.ne_of_gt (Nat.lt_trans lvu lur), Nat.ne_of_gt lvu⟩
      have hcA : @Ne Nat (qa + 1) ar ∧ @Ne Nat (qa + 1) au ∧ @Ne Nat (qa + 1) av := ⟨Ne.symm x1, Ne.symm x2, Ne.symm x3⟩
      refine' tupleN (m₀ := ?mm) (its := rdy.toArray) (JB9 prog w t wd qa rb ar au av oC rdy Y BA pre bt ?mm) rfl F26 N26 [(rb, { cls := .type "tuple", data := .seq rdy.toArray })] ⟨_, hgrb, rfl, 0, rfl⟩ (.inr (.head _)) (Ne.symm (N26 _ (.head _)).2.1) ?hJc2 ?h02 ?turn2 ?done2
      case hJc2 =>
        rintro i m news ⟨oV, oU, oR, kV, kU, kR, Z, T, _, rfl, _⟩ q hq
        rw [List.mem_singleton.mp hq]; exact .head _
      case h02 =>
        have e0 : pre ++ bt.take 0 = pre := by rw [List.take_zero, List.append_nil]
        exact ⟨oV, oU, oR, kV, kU, kR, Z, T, fun _ _ _ _ _ _ _ _ _ => rfl, rfl, dV, dU, dR, by rw [e0]; exact nV, by rw [e0]; exact nU, by rw [e0]; exact nR, lkV, lkU, lkR, hT, by rw [e0]; exact hTU, hap1⟩
      case done2 =>
        clear F26 N26
        rintro m' news' h27 tk27 ⟨oV, oU, oR, kV, kU, kR, Z, T, hm, rfl, dV, dU, dR, nV, nU, nR, lkV, lkU, lkR, hT, hTU, hap⟩ F27 N27
        have hsz : rdy.toArray.size = bt.length := by rw [List.size_toArray, hnam.1]
        rw [hsz] at lkV lkU lkR
        rw [hsz, List.take_length] at nV nU nR hTU
        rw [over8 hm] at F27
        generalize m' (Str.ofString "up") = o1 at F27
        generalize m' (Str.ofString "rest") = o2 at F27
        generalize m' (Str.ofString "second") = o3 at F27
        generalize m' (Str.ofString "left") = o4 at F27
        generalize m' (Str.ofString "first") = o5 at F27
        generalize m' (Str.ofString "low") = o6 at F27
        generalize m' (Str.ofString "top") = o8 at F27
        generalize m' (Str.ofString "way") = o9 at F27
        clear hm
        change Fr g' qa h27 _ at F27
        have N28 : News g' qa h27 ((rb, { cls := .type "tuple", data := .seq rdy.toArray }) :: (ar, oR) :: (au, oU) :: (av, oV) :: (x, instObj 172 dx) :: (dx, sDict w v0 v1 v2 v3 d (.ref rl) (.int (pn + rdy.length) v4) (.int pn v5)) :: (d, o7) :: (rl, W.listOf #[] (ep + 1)) :: (qa + 1, oC) :: (wa, W.listOf wvs.toArray e2) :: (chunk nsJ ++ (qs ++ (Z ++ T)))) := news_of N27 (fun q hq => by
          rw [hY]
          revert q
          walk_at "m_sub")
        repeat' (first | (k_unfold; (try dsimp only)) | walk1 | (dsimp only; walk1) | (leave1; (try dsimp only)) | fail "no step")
        unfold Stop
        rename_i q9 _ F29 N29 l9
        have hsz2 : rdy.toArray.size ≤ sizeLine := by rw [hsz, sizeLine_eq]; exact Nat.le_trans (Nat.le_trans (Nat.le_add_left _ _) hbl) (by decide)
        refine star_seq F29 N29 (.tail _ (.head _)) rfl rfl (.inr rfl) (List.toList_toArray ..) hsz2 ?_
        intro h30 F30 N30
        refine ⟨methP N30 (.head _) (X'.keeps F30.keep), ?_⟩
        refine call_meth N30 (.head _) ?_
        have subJ : ∀ q ∈ (x, instObj 172 dx) :: (dx, sDict w v0 v1 v2 v3 d (.ref rl) (.int (pn + rdy.length) v4) (.int pn v5)) :: (d, o7) :: (rl, W.listOf #[] (ep + 1)) :: chunk nsJ, q ∈ (q9, methodObj (.ref 155) (.ref x)) :: (rb, { cls := .type "tuple", data := .seq rdy.toArray }) :: (ar, oR) :: (au, oU) :: (av, oV) :: (x, instObj 172 dx) :: (dx, sDict w v0 v1 v2 v3 d (.ref rl) (.int (pn + rdy.length) v4) (.int pn v5)) :: (d, o7) :: (rl, W.listOf #[] (ep + 1)) :: (qa + 1, oC) :: (wa, W.listOf wvs.toArray e2) :: (chunk nsJ ++ (qs ++ (Z ++ T))) := fun q hq => by
          revert q
          walk_at "m_sub"
        have hkJ2 : nsJ.map NR.key = ns.map NR.key := hkJ.trans hkey
        have hnpJ2 : nsJ.map (·.np) = markS np bt := by rw [hnpJ, hnp]; rfl
        have hbl7 : bt.length ≤ 7 := Nat.le_trans (Nat.le_add_left _ _) hbl
        refine done_code (rm.less (by decide : 51 ≤ 150)).deeper G (fun b o e => F30.keep _ _ (kg _ _ e)) (t0 := v0) (t1 := v1) (t2 := v2) (t3 := v3) (t4 := v4) (t5 := v5) (pn := pn + rdy.length) (fn := pn) (ep := ep + 1) (ns := nsJ) (t := t) (bt := bt) (fun q hq => (N30 q (subJ q hq)).1) (fun q hq => fresh_of_stays kg (N30 q (subJ q hq)).2.2) (by rw [keys_addrs hkJ2]; exact hSA) (by rw [keys_kvs hkJ2]; exact ho7) lo hbl7 (by rw [keys_y hkJ2, hb.ys]; exact W9.nd) hnam.1 ?_ ?_ ?_ ?_ ?_
        · intro i b hb'
          obtain ⟨r, ty, e1, e2⟩ := hnam.2 i b hb'
          obtain ⟨r', e3, e4⟩ := keys_get hkJ e1
          simp only [NR.key, Prod.mk.injEq] at e4
          exact ⟨r', ty, e3, by rw [e4.2.2.2.1]; exact e2⟩
        · intro r hr
          obtain ⟨r', e3, e4⟩ := keys_get hkJ2.symm hr
          simp only [NR.key, Prod.mk.injEq] at e4
          rw [← e4.2.2.2.2.2.1]; exact hb.sv0 _ e3
        · intro u r hr
          obtain ⟨r', e3, e4⟩ := keys_get hkJ2.symm hr
          simp only [NR.key, Prod.mk.injEq] at e4
          obtain ⟨rp, tp, e5, e6⟩ := hb.sv u r' e3
          obtain ⟨rp', e7, e8⟩ := keys_get hkJ2 e5
          simp only [NR.key, Prod.mk.injEq] at e8
          have hul : u < t.length := by
            have := (List.getElem?_eq_some_iff.mp e3).1
            rw [hb.len] at this; omega
          refine ⟨rp', tp, e7, by rw [← e4.2.2.2.2.2.1, e6, e8.2.2.2.1], ?_⟩
          have := (tree_at ht hul).2
          omega
        · intro i b hb'
          rw [hnpJ2]
          exact (hbt i b hb').2.2
        intro h32 tk32 nsK rdy2 rn er tf k32 S32 hkK hnpK hnamK hlK
        dsimp only
        have hkK2 : nsK.map NR.key = ns.map NR.key := hkK.trans hkJ2
        have epn : pn + (bt.length : Int) = pn + (rdy.length : Int) := by rw [hnam.1]
        rw [epn] at S32
        obtain ⟨F32, N32⟩ := after_many (K := (ar, oR) :: (au, oU) :: (av, oV) :: (qa + 1, oC) :: (wa, W.listOf wvs.toArray e2) :: (qs ++ (Z ++ T))) (S := (x, instObj 172 dx) :: (dx, sDict w v0 v1 v2 v3 d (.ref rl) (.int (pn + rdy.length) v4) (.int pn v5)) :: (d, o7) :: (rl, W.listOf #[] (ep + 1)) :: chunk nsJ)
          (S' := (x, instObj 172 dx) :: (dx, sDict w v0 v1 v2 v3 d (.ref rl) (.int (pn + rdy.length) v4) (.int (pn + rdy.length) tf)) :: (d, o7) :: (rl, W.listOf rdy2.toArray er) :: chunk nsK) F30 (news_of N30 (fun q hq => by
            revert q
            walk_at "m_sub")) (h' := h32)
          (fun q hq hm => hBS q.1 (by
            clear hm
            revert q
            exact fa_cons (.inl (.head _)) (fa_cons (.inl (.tail _ (.head _))) (fa_cons (.inl (.tail _ (.tail _ (.head _)))) (fa_cons (.inl (.tail _ (.tail _ (.tail _ (.head _))))) (fa_cons (.inl (.tail _ (.tail _ (.tail _ (.tail _ (.head _)))))) (fa_app (fun q hq => .inl (.tail _ (.tail _ (.tail _ (.tail _ (.tail _ (List.mem_map_of_mem hq))))))) (fa_app (fun q hq => .inr fun hm2 => hap.z q hq (.tail _ hm2)) (fun q hq => .inr fun hm2 => hap.t q hq (.tail _ hm2))))))))) (by
            have h9 : q.1 ∈ x :: dx :: d :: rl :: (chunk nsJ).map (·.1) := hm
            rw [chunk_as, keys_addrs hkJ2] at h9
            exact h9))
          (fa_cons (.head _) (fa_cons (.tail _ (.head _)) (fa_cons (.tail _ (.tail _ (.head _))) (fa_cons (.tail _ (.tail _ (.tail _ (.head _)))) fun q hq => .tail _ (.tail _ (.tail _ (.tail _ (by
            show q.1 ∈ (chunk nsJ).map (·.1)
            rw [chunk_as, ← keys_addrs hkK, ← chunk_as]
            exact List.mem_map_of_mem hq))))))))
          (fun b' z hb' e => k32 b' z (fun hm => hb' (by
            show b' ∈ x :: dx :: d :: rl :: (chunk nsJ).map (·.1)
            rw [chunk_as]
            exact hm)) e) S32
        have N33 := news_of N32 (b := (ar, oR) :: (au, oU) :: (av, oV) :: (x, instObj 172 dx) :: (dx, sDict w v0 v1 v2 v3 d (.ref rl) (.int (pn + rdy.length) v4) (.int (pn + rdy.length) tf)) :: (d, o7) :: (rl, W.listOf rdy2.toArray er) :: (qa + 1, oC) :: (wa, W.listOf wvs.toArray e2) :: (chunk nsK ++ (qs ++ (Z ++ T)))) (fun q hq => by
            revert q
            walk_at "m_sub")
        (try clear F29); (try clear N29); (try clear F30); (try clear N30); (try clear N32); (try clear F27); (try clear N27); (try clear l9)
        repeat' (first | (k_unfold; (try dsimp only)) | walk1 | (dsimp only; walk1) | (leave1; (try dsimp only)) | fail "no step")
        rename Fr _ _ _ _ => F34
        rename News _ _ _ _ => N34
        refine ⟨_, _, rfl, ?_⟩
        rw [hInv]
        have hnx : nextS t np bt = (nsK.map (·.np), rn) := by
          unfold nextS; rw [hnpK, hnpJ2]
        rw [hnx]
        refine ⟨_, oV, oU, oR, kV, kU, kR, nsK, rdy2, er, v0, v1, v2, v3, v4, tf, pn + rdy.length, Z, T, ?_, F34, N34, dV, dU, dR, nV, nU, nR, by rw [List.length_append]; omega, by rw [List.length_append]; omega, by rw [List.length_append]; omega, by rw [List.length_append]; omega, hkK2, rfl, ?_, hseq.app (fun i v e => ⟨(hbt i v e).1, (hbt i v e).2.1⟩), hT, hTU, ⟨fun q hq hm => hap.z q hq (.tail _ hm), fun q hq hm => hap.t q hq (.tail _ hm), hap.zt⟩⟩
        · intro z n1 n2 n3 n4 n5 n6 n7 n8 n9
          rw [hm0]
          (try dsimp only)
          (repeat (refine (if_neg (by assumption)).trans ?_))
          exact rfl
        · refine ⟨hnamK.1, fun i b e => ?_⟩
          obtain ⟨r, ty, e1, e2⟩ := hnamK.2 i b e
          obtain ⟨r', e3, e4⟩ := keys_get hkK e1
          simp only [NR.key, Prod.mk.injEq] at e4
          exact ⟨r', ty, e3, by rw [e4.2.2.2.1]; exact e2⟩
      case turn2 =>
        clear F26 N26
        rintro J' hJ' ⟨h27, g27, dr27, tk27, os27⟩ I i v m₁ news₁ oI hi hv ⟨oV, oU, oR, kV, kU, kR, Z, T, hm, rfl, dV, dU, dR, nV, nU, nR, lkV, lkU, lkR, hT, hTU, hap⟩ hne F27 N27
        change Fr g' qa h27 _ at F27
        change News g' qa h27 _ at N27
        refine opq fun QQ hQQ => ?_
        have hib : i < bt.length := by rw [← hnam.1]; exact hi
        obtain ⟨b, hbi⟩ : ∃ b, bt[i]? = some b := ⟨_, List.getElem?_eq_getElem hib⟩
        obtain ⟨r, ty, hr1, hr2⟩ := hnam.2 i b hbi
        obtain ⟨y, hy0⟩ : ∃ y, y = r.y := ⟨_, rfl⟩
        have hy := hIy b r hr1
        rw [← hy0] at hy hr2
        obtain rfl : v = .str y ty := by
          rw [List.getElem?_toArray, hr2] at hv
          exact (Option.some.inj hv).symm
        obtain ⟨hg, hx, _⟩ := hbt i b hbi
        have hseqP := hseq.at (fun i v e => ⟨(hbt i v e).1, (hbt i v e).2.1⟩) i
        have so := turn_ok ht h6 hw hw2 hseqP hg hx
        have sm := fun (c : Nat) (hc : c ≤ t.length) (hcp : c ∉ pre ++ bt.take i) => step_small ht h6 hw hw2 hseqP hx hc hcp
        obtain ⟨P, hP⟩ : ∃ P, P = pre ++ bt.take i := ⟨_, rfl⟩
        have hPlen : P.length = pre.length + i := by rw [hP, List.length_append, List.length_take, Nat.min_eq_left (Nat.le_of_lt hib)]
        rw [← hP] at so sm hg nV nU nR hTU
        obtain ⟨sN, hsN⟩ : ∃ sN, sN = numS t (2 ^ wd) P := ⟨_, rfl⟩
        rw [← hsN] at so sm nV nU nR
        have smb := sm b hg.le hg.new
        have hM1 : IntMulOk ((sN.un b : Nat) : Int) ((2 ^ wd : Nat) : Int) := mulok_nat smb.1 (Nat.le_trans so.bp (by decide))
        have hS1 : sN.ov b ≤ sN.un b * 2 ^ wd := Nat.le_of_lt so.lt
        have hP4 := so.bp
        have hM2 : IntMulOk ((sN.un b * 2 ^ wd : Nat) : Int) (((2 ^ wd) ^ 4 : Nat) : Int) := mulok_nat so.bt so.bp4
        rw [over8 hm] at F27
        generalize m₁ (Str.ofString "up") = o1 at F27
        generalize m₁ (Str.ofString "rest") = o2 at F27
        generalize m₁ (Str.ofString "second") = o3 at F27
        generalize m₁ (Str.ofString "left") = o4 at F27
        generalize m₁ (Str.ofString "first") = o5 at F27
        generalize m₁ (Str.ofString "low") = o6 at F27
        generalize m₁ (Str.ofString "top") = o8 at F27
        generalize m₁ (Str.ofString "way") = o9 at F27
        clear hm
        (try clear mk1); (try clear mk3); (try clear mk7)
        repeat' (first | (k_unfold; (try dsimp only)) | walk1 | (dsimp only; walk1) | (leave1; (try dsimp only)) | fail "no step")
        unfold Stop
        rename Fr _ _ _ _ => F28
        rename News _ _ _ _ => N28
        obtain ⟨top, htop⟩ : ∃ top, top = sN.un b * 2 ^ wd := ⟨_, rfl⟩
        rw [← htop] at so hS1 hM2 F28 ⊢
        obtain ⟨low, hlow⟩ : ∃ low, low = top - sN.ov b := ⟨_, rfl⟩
        rw [← hlow] at so F28 ⊢
        have hKT : ∀ q ∈ (I, oI) :: (rb, { cls := .type "tuple", data := .seq rdy.toArray }) :: (ar, oR) :: (au, oU) :: (av, oV) :: (qa + 1, oC) :: (Y ++ Z), ∀ p ∈ T, @Ne Nat q.1 p.1 := by
          have hI : ∀ p ∈ T, @Ne Nat I p.1 := fun p hp => Ne.symm (hne p (by walk_at "m_mem"))
          have hB : ∀ a ∈ rb :: BA, ∀ p ∈ T, @Ne Nat a p.1 := fun a ha p hp e => hap.t p hp (show p.1 ∈ rb :: BA from e ▸ ha)
          refine fa_cons hI (fa_cons (hB rb (.head _)) (fa_cons (hB ar (by rw [hBA]; walk_at "m_mem")) (fa_cons (hB au (by rw [hBA]; walk_at "m_mem")) (fa_cons (hB av (by rw [hBA]; walk_at "m_mem")) (fa_cons (hB (qa + 1) (by rw [hBA]; walk_at "m_mem")) (fa_app (fun q hq => hB q.1 (.tail _ (hYB q hq))) hap.zt))))))
        refine divmod_led (rm.less (by decide : 111 ≤ 150)).deeper G kg (K := (I, oI) :: (rb, { cls := .type "tuple", data := .seq rdy.toArray }) :: (ar, oR) :: (au, oU) :: (av, oV) :: (qa + 1, oC) :: (Y ++ Z)) F28 N28 hT hKT so.pos so.b1 so.c1 ?_
        intro h29 tk29 r1 q1 q2 T1 F29 N29 hT1 hKT1
        have hM3 : IntMulOk ((top * (2 ^ wd) ^ 4 % low : Nat) : Int) (((2 ^ wd) ^ 4 : Nat) : Int) := mulok_nat so.br so.bp4
        obtain ⟨X, hX⟩ : ∃ X, X = (Y ++ Z) ++ T1 := ⟨_, rfl⟩
        have N29 : News g' qa h29 ((r1, { cls := .type "tuple", data := .seq #[.int ((top * (2 ^ wd) ^ 4 / low : Nat) : Int) q1, .int ((top * (2 ^ wd) ^ 4 % low : Nat) : Int) q2] }) :: (I, oI) :: (rb, { cls := .type "tuple", data := .seq rdy.toArray }) :: (ar, oR) :: (au, oU) :: (av, oV) :: (qa + 1, oC) :: X) := by rw [hX]; exact N29
        clear F28 N28
        repeat' (first | (k_unfold; (try dsimp only)) | walk1 | (dsimp only; walk1) | (leave1; (try dsimp only)) | fail "no step")
        unfold Stop
        rename Fr _ _ _ _ => F30
        rename News _ _ _ _ => N30
        have N30 := news_of N30 (b := (I, oI) :: (rb, { cls := .type "tuple", data := .seq rdy.toArray }) :: (ar, oR) :: (au, oU) :: (av, oV) :: (qa + 1, oC) :: ((Y ++ Z) ++ T1)) (fun q hq => by rw [← hX] at hq; exact .tail _ hq)
        refine divmod_led (rm.less (by decide : 111 ≤ 150)).deeper G kg (K := (I, oI) :: (rb, { cls := .type "tuple", data := .seq rdy.toArray }) :: (ar, oR) :: (au, oU) :: (av, oV) :: (qa + 1, oC) :: (Y ++ Z)) F30 N30 (.inr hT1) hKT1 so.pos so.b1 so.c2 ?_
        (try clear N29); (try clear N30); (try clear F30); (try clear F29); clear hKT1 hT1 hX; (try clear X); (try clear T1)
        intro h31 tk31 r2 q3 q4 T1 F31 N31 hT1 hKT1
        obtain ⟨X, hX⟩ : ∃ X, X = (Y ++ Z) ++ T1 := ⟨_, rfl⟩
        have N31 : News g' qa h31 ((r2, { cls := .type "tuple", data := .seq #[.int ((top * (2 ^ wd) ^ 4 % low * (2 ^ wd) ^ 4 / low : Nat) : Int) q3, .int ((top * (2 ^ wd) ^ 4 % low * (2 ^ wd) ^ 4 % low : Nat) : Int) q4] }) :: (I, oI) :: (rb, { cls := .type "tuple", data := .seq rdy.toArray }) :: (ar, oR) :: (au, oU) :: (av, oV) :: (qa + 1, oC) :: X) := by rw [hX]; exact N31
        repeat' (first | (k_unfold; (try dsimp only)) | walk1 | (dsimp only; walk1) | (leave1; (try dsimp only)) | fail "no step")
        unfold Stop
        rename Fr _ _ _ _ => F32
        rename News _ _ _ _ => N32
        have N32 := news_of N32 (b := (I, oI) :: (rb, { cls := .type "tuple", data := .seq rdy.toArray }) :: (ar, oR) :: (au, oU) :: (av, oV) :: (qa + 1, oC) :: ((Y ++ Z) ++ T1)) (fun q hq => by rw [← hX] at hq; exact .tail _ hq)
        obtain ⟨KK, hKK⟩ : ∃ KK, KK = (I, oI) :: (rb, { cls := .type "tuple", data := .seq rdy.toArray }) :: (ar, oR) :: (au, oU) :: (av, oV) :: (qa + 1, oC) :: (Y ++ Z) := ⟨_, rfl⟩
        refine i2d_led (rm.less (by decide : 101 ≤ 150)).deeper G kg (K := (I, oI) :: (rb, { cls := .type "tuple", data := .seq rdy.toArray }) :: (ar, oR) :: (au, oU) :: (av, oV) :: (qa + 1, oC) :: (Y ++ Z)) F32 N32 hT1 (by omega) so.d1 (by omega) ?_
        (try clear N31); (try clear F31); (try clear N32); (try clear F32)
        intro h33 tk33 a1 vs1 F33 N33 la1 hvs1
        have N33 : News g' qa h33 ((a1, W.listOf vs1.toArray 0) :: (I, oI) :: (rb, { cls := .type "tuple", data := .seq rdy.toArray }) :: (ar, oR) :: (au, oU) :: (av, oV) :: (qa + 1, oC) :: X) := by rw [hX]; exact N33
        repeat' (first | (k_unfold; (try dsimp only)) | walk1 | (dsimp only; walk1) | (leave1; (try dsimp only)) | fail "no step")
        unfold Stop
        rename Fr _ _ _ _ => F34
        rename News _ _ _ _ => N34
        have N34 : News g' qa h33 (((a1, W.listOf vs1.toArray 0) :: (I, oI) :: (rb, { cls := .type "tuple", data := .seq rdy.toArray }) :: (ar, oR) :: (au, oU) :: (av, oV) :: (qa + 1, oC) :: (Y ++ Z)) ++ T1) := by rw [hX] at N34; exact N34
        refine i2d_led (rm.less (by decide : 101 ≤ 150)).deeper G kg (K := (a1, W.listOf vs1.toArray 0) :: (I, oI) :: (rb, { cls := .type "tuple", data := .seq rdy.toArray }) :: (ar, oR) :: (au, oU) :: (av, oV) :: (qa + 1, oC) :: (Y ++ Z)) F34 N34 hT1 (by omega) so.d2 (by omega) ?_
        (try clear N33); (try clear F33); (try clear N34); (try clear F34)
        intro h35 tk35 a2 vs2 F35 N35 la2 hvs2
        have N35 : News g' qa h35 ((a2, W.listOf vs2.toArray 0) :: (a1, W.listOf vs1.toArray 0) :: (I, oI) :: (rb, { cls := .type "tuple", data := .seq rdy.toArray }) :: (ar, oR) :: (au, oU) :: (av, oV) :: (qa + 1, oC) :: X) := by rw [hX]; exact N35
        have hlkR : kR.length ≤ sizeLine := Nat.le_trans lkR (by rw [sizeLine_eq]; exact Nat.le_trans (Nat.add_le_add_left (Nat.le_of_lt hib) _) (Nat.le_trans hbl (by decide)))
        have hlkU : kU.length ≤ sizeLine := Nat.le_trans lkU (by rw [sizeLine_eq]; exact Nat.le_trans (Nat.add_le_add_left (Nat.le_of_lt hib) _) (Nat.le_trans hbl (by decide)))
        have hlkV : kV.length ≤ sizeLine := Nat.le_trans lkV (by rw [sizeLine_eq]; exact Nat.le_trans (Nat.add_le_add_left (Nat.le_of_lt hib) _) (Nat.le_trans hbl (by decide)))
        have mk5 := mark
        repeat' (first | (k_unfold; (try dsimp only)) | walk1 | (dsimp only; walk1) | (leave1; (try dsimp only)) | fail "no step")
        unfold Stop
        rename_i a3 _ F36 N36 l3
        have la3 := allLt_mem (l := (a2, W.listOf vs2.toArray 0) :: (a1, W.listOf vs1.toArray 0) :: (I, oI) :: (rb, { cls := .type "tuple", data := .seq rdy.toArray }) :: (ar, oR) :: (au, oU) :: (av, oV) :: (qa + 1, oC) :: X) l3
        obtain ⟨Z1, hZ1⟩ : ∃ Z1, Z1 = (a3, W.listOf #[.ref a1, .ref a2] 0) :: (a2, W.listOf vs2.toArray 0) :: (a1, W.listOf vs1.toArray 0) :: Z := ⟨_, rfl⟩
        obtain ⟨X2, hX2⟩ : ∃ X2, X2 = (Y ++ Z1) ++ T1 := ⟨_, rfl⟩
        have N36 : News g' qa _ ((I, oI) :: (rb, { cls := .type "tuple", data := .seq rdy.toArray }) :: (ar, oR) :: (au, oU) :: (av, oV) :: (qa + 1, oC) :: X2) := news_of N36 (fun q hq => by
          rw [hX2, hZ1] at hq
          rw [hX]
          revert q
          walk_at "m_sub")
        have lt1 : ∀ a ∈ rb :: BA, @LT.lt Nat _ a a1 := fun a ha => by
          rcases List.mem_cons.mp ha with e | ha
          · rw [e]; exact la1 (rb, { cls := .type "tuple", data := .seq rdy.toArray }) (by walk_at "m_mem")
          · rcases hBK a ha with e | e | e | e | ⟨q, hq, e⟩
            · rw [e]; exact la1 (ar, oR) (by walk_at "m_mem")
            · rw [e]; exact la1 (au, oU) (by walk_at "m_mem")
            · rw [e]; exact la1 (av, oV) (by walk_at "m_mem")
            · rw [e]; exact la1 (qa + 1, oC) (by walk_at "m_mem")
            · rw [← e]; exact la1 q (by (try rw [hq]); walk_at "m_mem")
        have l12 : @LT.lt Nat _ a1 a2 := la2 (a1, W.listOf vs1.toArray 0) (by walk_at "m_mem")
        have l23 : @LT.lt Nat _ a2 a3 := la3 _ (.head _)
        have l13 : @LT.lt Nat _ a1 a3 := Nat.lt_trans l12 l23
        have hap2 : Apart (rb :: BA) Z1 T1 := by
          refine ⟨?_, ?_, ?_⟩
          · rw [hZ1]
            refine List.forall_mem_cons.mpr ⟨fun hm => ?_, List.forall_mem_cons.mpr ⟨fun hm => ?_, List.forall_mem_cons.mpr ⟨fun hm => ?_, hap.z⟩⟩⟩
            · exact Nat.lt_irrefl _ (Nat.lt_trans (lt1 _ hm) l13)
            · exact Nat.lt_irrefl _ (Nat.lt_trans (lt1 _ hm) l12)
            · exact Nat.lt_irrefl _ (lt1 _ hm)
          · intro p hp hm
            rcases List.mem_cons.mp hm with e | ha
            · exact hKT1 (rb, _) (.tail _ (.head _)) p hp e.symm
            · rcases hBK _ ha with e | e | e | e | ⟨q, hq, e⟩
              · exact hKT1 (ar, oR) (by walk_at "m_mem") p hp e.symm
              · exact hKT1 (au, oU) (by walk_at "m_mem") p hp e.symm
              · exact hKT1 (av, oV) (by walk_at "m_mem") p hp e.symm
              · exact hKT1 (qa + 1, oC) (by walk_at "m_mem") p hp e.symm
              · exact hKT1 q (by (try rw [hq]); walk_at "m_mem") p hp e
          · intro q hq p hp
            rw [hZ1] at hq
            have lp : @LT.lt Nat _ p.1 a1 := la1 p (List.mem_append_right _ hp)
            revert q
            exact fa_cons (Nat.ne_of_gt (Nat.lt_trans lp l13)) (fa_cons (Nat.ne_of_gt (Nat.lt_trans lp l12)) (fa_cons (Nat.ne_of_gt lp) fun q hq => hKT1 q (by walk_at "m_mem") p hp))
        have inBA : ar ∈ rb :: BA ∧ au ∈ rb :: BA ∧ av ∈ rb :: BA := ⟨by rw [hBA]; walk_at "m_mem", by rw [hBA]; walk_at "m_mem", by rw [hBA]; walk_at "m_mem"⟩
        have nX : ∀ a, a ∈ rb :: BA → (∀ q ∈ Y, @Ne Nat q.1 a) → ∀ q ∈ X2, @Ne Nat q.1 a := fun a ha hy' q hq e => by
          rw [hX2] at hq
          rcases List.mem_append.mp hq with hq | hq
          · rcases List.mem_append.mp hq with hq | hq
            · exact hy' q hq e
            · exact hap2.z q hq (by rw [show q.1 = a from e]; exact ha)
          · exact hap2.t q hq (by rw [show q.1 = a from e]; exact ha)
        have y1 := nX ar inBA.1 (fun q hq => (hYA q hq).1)
        have y2 := nX au inBA.2.1 (fun q hq => (hYA q hq).2.1)
        have y3 := nX av inBA.2.2 (fun q hq => (hYA q hq).2.2)
        have z1 : @Ne Nat ar I := hne (ar, oR) (by walk_at "m_mem")
        have z2 : @Ne Nat au I := hne (au, oU) (by walk_at "m_mem")
        have z3 : @Ne Nat av I := hne (av, oV) (by walk_at "m_mem")
        obtain ⟨ra1, ra2, ra3⟩ := hra
        obtain ⟨aa1, aa2, aa3⟩ := haa
        obtain ⟨ca1, ca2, ca3⟩ := hcA
        have hP1 : pre ++ bt.take (i + 1) = P ++ [b] := by
          rw [List.take_add_one, hbi, Option.toList_some, ← List.append_assoc, ← hP]
        have hnum : numS t (2 ^ wd) (P ++ [b]) = procS t (2 ^ wd) sN b := by rw [numS_snoc, ← hsN]
        have nR1 : RowsOk (wys t) (stored kR y (.ref a3)) (P ++ [b]) wd (procS t (2 ^ wd) sN b) Z1 := by
          rw [hZ1]
          exact RowsOk.step W9.nd nR hy hg.new htop (by rw [hlow, htop]) hvs1 hvs2
        have hkR1 : (stored kR y (.ref a3)).length ≤ pre.length + (i + 1) := by
          exact Nat.le_trans (stored_len kR y (.ref a3)) (Nat.add_le_add_right lkR 1)
        have hIX : ∀ q ∈ X2, @Ne Nat q.1 I := fun q hq => by
          have lI : @LT.lt Nat _ I a1 := la1 (I, oI) (by walk_at "m_mem")
          rw [hX2, hZ1] at hq
          revert q
          exact fa_app (fa_app (fun q hq => hne q (by walk_at "m_mem")) (fa_cons (Nat.ne_of_gt (Nat.lt_trans lI l13)) (fa_cons (Nat.ne_of_gt (Nat.lt_trans lI l12)) (fa_cons (Nat.ne_of_gt lI) fun q hq => hne q (by walk_at "m_mem"))))) (fun q hq => Ne.symm (hKT1 (I, oI) (by walk_at "m_mem") q hq))
        have hrI : @Ne Nat rb I := hne _ (.head _)
        have hcI : @Ne Nat (qa + 1) I := hne (qa + 1, oC) (by walk_at "m_mem")
        (try clear N35); (try clear F35)

        repeat' (first | (k_unfold; (try dsimp only)) | walk1 | (dsimp only; walk1) | (leave1; (try dsimp only)) | fail "no step")
        · unfold Stop
          rename ((y != Str.ofString "/") = true) => hsl1
          rename Fr _ _ _ _ => F37
          rename News _ _ _ _ => N37
          rename Obj.IsDictOf _ _ (stored kR _ _) => dR1
          have hb0 : b ≠ 0 := fun e => by
            rw [e, wys_zero t] at hy
            have e0 := Option.some.inj hy
            rw [← e0] at hsl1
            simp at hsl1
          obtain ⟨kk, hkk'⟩ : ∃ kk, b = kk + 1 := ⟨b - 1, (Nat.sub_add_cancel (Nat.pos_of_ne_zero hb0)).symm⟩
          have hkl : kk < t.length := Nat.lt_of_succ_le (show kk + 1 ≤ t.length by rw [← hkk']; exact hg.le)
          obtain ⟨c1, c2, c3, c4⟩ := W9.dir kk y hkl (by rw [← hkk']; exact hy)
          refine dirname_spec (rm.less (by decide : 31 ≤ 150)).deeper G (fun b o e => F37.keep _ _ (kg _ _ e)) (Nat.le_trans c1 (by rw [sizeLine_eq]; decide)) (y := cutR y) rfl c2 (Nat.le_trans c3 (by decide)) ?_
          intro h38 tk38 td k38
          have F38 := F37.keeps k38
          have N38 := N37.grown k38
          obtain ⟨z, hz⟩ : ∃ z, z = dirR (cutR y) := ⟨_, rfl⟩
          obtain ⟨v2, hv2⟩ : ∃ v2, v2 = t.getD kk 0 := ⟨_, rfl⟩
          rw [← hz, ← hv2] at c4
          have hup : b - 1 = kk := by rw [hkk', Nat.add_sub_cancel]
          have hv2' : v2 = t.getD (b - 1) 0 := by rw [hup]; exact hv2
          have hv2le : v2 ≤ t.length := by rw [hv2]; exact Nat.le_trans (tree_at ht hkl).2 (Nat.le_of_lt hkl)
          have hv2n : v2 ∉ P := by rw [hv2']; exact hg.up hb0
          have sm2 := sm v2 hv2le hv2n
          have hlb : Builtin.Int.intBits (low : Int) ≤ 2000 := so.bl
          have hM4 : IntMulOk ((sN.ov v2 : Nat) : Int) ((low : Nat) : Int) := mulok_nat sm2.2 hlb
          have hM5 : IntMulOk ((top : Nat) : Int) ((sN.un v2 : Nat) : Int) := mulok_nat so.bt sm2.1
          have hM6 : IntMulOk ((sN.un v2 : Nat) : Int) ((low : Nat) : Int) := mulok_nat sm2.1 hlb
          rw [← hz]
          (try clear F37); (try clear N37)
          repeat' (first | (k_unfold; (try dsimp only)) | walk1 | (dsimp only; walk1) | (leave1; (try dsimp only)) | fail "no step")
          dsimp only
          rename Fr _ _ _ _ => F39
          rename News _ _ _ _ => N39
          rename Obj.IsDictOf _ _ (stored kV _ _) => dV1
          rename Obj.IsDictOf _ _ (stored kU _ _) => dU1
          refine hQQ _ _ (EndN.mk' ((rb, { cls := .type "tuple", data := .seq rdy.toArray }) :: (ar, _) :: (au, _) :: (av, _) :: (qa + 1, oC) :: X2) F39 N39 (.head _) (fun q hq => .tail _ hq) ?_ ?_)
          · exact List.forall_mem_cons.mpr ⟨hrI, List.forall_mem_cons.mpr ⟨z1, List.forall_mem_cons.mpr ⟨z2, List.forall_mem_cons.mpr ⟨z3, List.forall_mem_cons.mpr ⟨hcI, hIX⟩⟩⟩⟩⟩
          · refine hJ' _ _ _ ⟨_, _, _, _, _, _, Z1, T1, ?_, by rw [hX2], dV1, dU1, dR1, ?_, ?_, ?_, ?_, ?_, hkR1, .inr hT1, fun _ => hT1, hap2⟩
            · intro z n1 n2 n3 n4 n5 n6 n7 n8
              (try dsimp only)
              (repeat (refine (if_neg (by assumption)).trans ?_))
              exact rfl
            · rw [hP1, hnum]
              refine nV.set W9.nd c4 _ _ fun c => ?_
              rw [procS_ov, ← hv2', ← htop, ← hlow]
              by_cases hc : c = v2
              · rw [if_pos ⟨hb0, hc⟩, if_pos hc, hc]
              · rw [if_neg (fun hh => hc hh.2), if_neg hc]
            · rw [hP1, hnum]
              refine nU.set W9.nd c4 _ _ fun c => ?_
              rw [procS_un, ← hv2', ← htop, ← hlow]
              by_cases hc : c = v2
              · rw [if_pos ⟨hb0, hc⟩, if_pos hc, hc]
              · rw [if_neg (fun hh => hc hh.2), if_neg hc]
            · rw [hP1, hnum]; exact nR1
            · exact Nat.le_trans (stored_len _ _ _) (Nat.add_le_add_right lkV 1)
            · exact Nat.le_trans (stored_len _ _ _) (Nat.add_le_add_right lkU 1)
        · rename ((y != Str.ofString "/") = false) => hsl0
          rename Fr _ _ _ _ => F37
          rename News _ _ _ _ => N37
          rename Obj.IsDictOf _ _ (stored kR _ _) => dR1
          have hb0 : b = 0 := by
            have e0 : y = Str.ofString "/" := by simpa using hsl0
            have h0 : (wys t)[0]? = some (Str.ofString "/") := wys_zero t
            exact nodup_idx W9.nd (e0 ▸ hy) h0
          refine hQQ _ _ (EndN.mk' ((rb, { cls := .type "tuple", data := .seq rdy.toArray }) :: (ar, _) :: (au, oU) :: (av, oV) :: (qa + 1, oC) :: X2) F37 N37 (.head _) (fun q hq => .tail _ hq) ?_ ?_)
          · exact List.forall_mem_cons.mpr ⟨hrI, List.forall_mem_cons.mpr ⟨z1, List.forall_mem_cons.mpr ⟨z2, List.forall_mem_cons.mpr ⟨z3, List.forall_mem_cons.mpr ⟨hcI, hIX⟩⟩⟩⟩⟩
          · refine hJ' _ _ _ ⟨oV, oU, _, kV, kU, _, Z1, T1, ?_, by rw [hX2], dV, dU, dR1, ?_, ?_, ?_, Nat.le_succ_of_le lkV, Nat.le_succ_of_le lkU, hkR1, .inr hT1, fun _ => hT1, hap2⟩
            · intro z n1 n2 n3 n4 n5 n6 n7 n8
              (try dsimp only)
              (repeat (refine (if_neg (by assumption)).trans ?_))
              exact rfl
            · rw [hP1, hnum]; exact nV.congr fun c => by rw [procS_ov, if_neg (fun hh => hh.1 hb0)]
            · rw [hP1, hnum]; exact nU.congr fun c => by rw [procS_un, if_neg (fun hh => hh.1 hb0)]
            · rw [hP1, hnum]; exact nR1
end

section
open PySem PySem.W PyProof.Rows PySem.Calls
local macro_rules | `(tactic| walk_at "eval ListComp") => `(tactic| (refine stop_it ?_))
local macro_rules | `(tactic| walk_at "CompEnd") => `(tactic| (refine stop_it ?_))
local macro_rules | `(tactic| walk_at "CompSrc") => `(tactic| (refine stop_it ?_))
theorem width_nat (x : Int) : ∃ wd : Nat, 32 + x.fmod 33 = (wd : Int) ∧ 32 ≤ wd ∧ wd ≤ 64 := by
  have h1 := Int.fmod_nonneg_of_pos x (by decide : (0 : Int) < 33)
  have h2 := Int.fmod_lt_of_pos x (by decide : (0 : Int) < 33)
  exact ⟨(32 + x.fmod 33).toNat, by omega, by omega, by omega⟩
theorem digits_w {prog : Program} {w : World} {A : Around} {E : Value → Shared → Prop} {s : Shared} {p : Program} {loose : List Str} {mean : ExcName → Option Value} {mg mb : Str → Option Value} {H0 : Heap}
    (rm : Rm A 150) (G : Gnd w p loose mean mg mb H0) (k : H0.StaysIn s.heap)
    {wa : Addr} {wvs : List Value} {e2 : Nat} {t : List Nat} {x : Int} {tn : Tok} {l : List Env} {frs : List (Addr × Obj)} {Q : Value → Shared → Prop} (hfr : A.frames = some l) (Fs : TI.Frs l frs) (Sf : ∀ q ∈ frs, s.heap.get? q.1 = some q.2) (Sfn : ∀ q ∈ frs, H0.get? q.1 = none)
    (hl : s.heap.get? wa = some (W.listOf wvs.toArray e2)) (hwn : H0.get? wa = none) (haf : ∀ q ∈ frs, @Ne Nat q.1 wa ∧ @Ne Nat q.1 37 ∧ @Ne Nat q.1 44) (hI : StrsAre wvs (wys t)) (h2 : 2 ≤ t.length) (h6 : t.length ≤ 6) (ht : TreeOk t) (hs1 : s.heap.get? 37 = some (tabObj #[])) (hs2 : s.heap.get? 44 = some (tabObj #[]))
    (h : ∀ h' tk r frs' rws R T, TI.SameUp frs frs' → TI.Frs l frs' → (∀ q ∈ frs', h'.get? q.1 = some q.2) → (∀ b z, b ∉ frs.map (·.1) → b ≠ 37 → b ≠ 44 → s.heap.get? b = some z → h'.get? b = some z) → h'.get? r = some (LCg.lst rws) → s.heap.get? r = none → RowsAt t rws R → (∀ q ∈ R, h'.get? q.1 = some q.2 ∧ s.heap.get? q.1 = none) → TabsU w T → (∀ q ∈ T, h'.get? q.1 = some q.2) → Q (.ref r) { s with heap := h', toks := tk }) :
    wpAny (model prog w) A (call (.ref 303) [.ref wa, .int (32 + x.fmod 33) tn] []) Q E s := by
  obtain ⟨wd, e, h32, h64⟩ := width_nat x
  rw [e]
  exact digits_spec rm G k hfr Fs Sf Sfn hl hwn haf hI h2 h6 ht h32 h64 hs1 hs2 h
theorem law_back {w : World} {g h h4 : Heap} {L r aa wa c r2 : Addr} {m : Str → Option Value} {oL oR oA oW oC : Obj} {es : Array DictEntry} {ep : Nat} {rws : List Value} {frs' R T : List (Addr × Obj)} (F : Fr g L h m) (N : News g L h [(r, oR), (aa, oA), (wa, oW), (c, oC), (44, tabObj #[]), (37, tabObj #[])])
    (hd : oL.data = .dict es ep) (hr : StrKeys es ∧ ∀ name, nsFind es name = m name) (na : oA.data ≠ (tabObj #[]).data) (nw : oW.data ≠ (tabObj #[]).data) (nc : c ≠ 37) (nc2 : c ≠ 44) (SU : TI.SameUp [(L, oL)] frs') (hfrs : ∀ q ∈ frs', h4.get? q.1 = some q.2)
    (kept : ∀ b z, b ∉ [(L, oL)].map (·.1) → b ≠ 37 → b ≠ 44 → h.get? b = some z → h4.get? b = some z) (gr2 : h4.get? r2 = some (LCg.lst rws)) (fr2 : h.get? r2 = none) (hR : ∀ q ∈ R, h4.get? q.1 = some q.2 ∧ h.get? q.1 = none) (hTU : TabsU w T) (hT : ∀ q ∈ T, h4.get? q.1 = some q.2) :
    Fr g L h4 m ∧ ∃ p1 p2, News g L h4 ((r2, LCg.lst rws) :: (aa, oA) :: (wa, oW) :: (c, oC) :: (37, tabObj p1) :: (44, tabObj p2) :: R) := by
  obtain ⟨p1, p2, m37, m44⟩ : ∃ p1 p2, (37, tabObj p1) ∈ T ∧ (44, tabObj p2) ∈ T := by
    cases hTU with
    | mk c1 c2 o1 o2 d1 d2 => exact ⟨_, _, .head _, .tail _ (.head _)⟩
  have g37 := News.get N (List.mem_of_getElem? (i := 5) rfl)
  have g44 := News.get N (List.mem_of_getElem? (i := 4) rfl)
  have n37 := (N _ (List.mem_of_getElem? (i := 5) rfl)).2
  have n44 := (N _ (List.mem_of_getElem? (i := 4) rfl)).2
  cases frs' with
  | nil => exact SU.elim
  | cons q0 qs =>
  obtain ⟨eq1, ⟨sl0, eq2⟩, SU'⟩ := SU
  obtain ⟨qa, qo⟩ := q0
  have hLq := hfrs _ (.head _)
  have e1 : qa = L := eq1
  have e2 : qo = { oL with slots := sl0 } := eq2
  subst e1 e2
  have F4 := fr_frames (frs := [(37, emptyDict), (44, emptyDict)]) (sl := sl0) F hd hr hLq (fun b z hb e => kept b z (fun hm => hb (by
      rw [List.mem_singleton.mp hm]; exact .head _)) (fun e2 => hb (by rw [e2]; exact .tail _ (.head _))) (fun e2 => hb (by rw [e2]; exact .tail _ (.tail _ (.head _)))) e) (fun b hb => by
    exact fa_cons (P := fun b => g.get? b = none) n37.2 (fa_cons n44.2 fa_nil) b hb)
  have old : ∀ q ∈ [(r, oR), (aa, oA), (wa, oW), (c, oC), (44, tabObj #[]), (37, tabObj #[])], q.1 ≠ 37 → q.1 ≠ 44 → h4.get? q.1 = some q.2 ∧ q.1 ≠ qa ∧ g.get? q.1 = none := fun q hq n1 n2 => ⟨kept _ _ (fun hm => (N q hq).2.1 (List.mem_singleton.mp hm)) n1 n2 (N q hq).1, (N q hq).2⟩
  refine ⟨F4, p1, p2, fa_cons ?_ (fa_cons ?_ (fa_cons ?_ (fa_cons ?_ (fa_cons ?_ (fa_cons ?_ ?_)))))⟩
  · exact newsAddF F (news := []) (fun _ q => nomatch q) gr2 fr2 _ (.head _)
  · exact old _ (List.mem_of_getElem? (i := 1) rfl) (ne_of_data (News.get N (List.mem_of_getElem? (i := 1) rfl)) g37 na) (ne_of_data (News.get N (List.mem_of_getElem? (i := 1) rfl)) g44 na)
  · exact old _ (List.mem_of_getElem? (i := 2) rfl) (ne_of_data (News.get N (List.mem_of_getElem? (i := 2) rfl)) g37 nw) (ne_of_data (News.get N (List.mem_of_getElem? (i := 2) rfl)) g44 nw)
  · exact old _ (List.mem_of_getElem? (i := 3) rfl) nc nc2
  · exact ⟨hT _ m37, n37⟩
  · exact ⟨hT _ m44, n44⟩
  · exact fun q hq => newsAddF F (news := []) (fun _ q => nomatch q) (hR q hq).1 (hR q hq).2 q (.head _)
theorem len_Kn {prog : Program} {w : World} {A : Around} {E : Value → Shared → Prop} {s : Shared} {Q : Value → Shared → Prop} {h₀ : Heap} {L l : Addr} {news : List (Addr × Obj)} {vs : List Value} {e n : Nat} (N : News h₀ L s.heap news) (hm : (l, W.listOf vs.toArray e) ∈ news) (hn : vs.length = n) (hb : n ≤ 1000) (h : Q (.int ((n : Nat) : Int) (s.toks + 1)) { s with toks := s.toks + 1 + 1 }) : wpAny (model prog w) A (call (.builtin "len") [.ref l]) Q E s := by
  refine PyProof.Rows.len_list (items := vs.toArray) ⟨_, (N _ hm).1, rfl, _, rfl⟩ (by rw [List.size_toArray]; omega) ?_
  rw [List.size_toArray, hn]; exact h
local macro_rules | `(tactic| walk_at "call builtin:len") => `(tactic| (k_here; refine len_Kn (by k_asm) (by k_mem) (by assumption) (by assumption) ?_))
local macro_rules | `(tactic| walk_at "call type:range") => `(tactic| (k_here; refine range1_rows (by k_asm) (by k_asm) ?_; intro h' tk' t1 u1 v1 hr' F' N' l1))
theorem compG_ind {prog : Program} {w : World} {A : Around} {s : Shared} {h₀ : Heap} {L : Addr} {m : Str → Option Value} {env : Env} {elt : PySem.Expr} {x : Str} {scope : Scope} {cl : List (Str × Addr)} {S : List (Addr × Obj) → Prop} {P : Nat → Value → Prop} {Fin : List Value → List (Addr × Obj) → Prop} {news : List (Addr × Obj)} {n : Nat} (J : Nat → List Value → List (Addr × Obj) → Prop)
    (h0 : J 0 [] news) (done : ∀ ys nw, J n ys nw → Fin ys nw)
    (turn : ∀ i ys nw v I oI C oC D m₂ h tk (E' : Value → Shared → Prop), i < n → J i ys nw → P i v → LCg.NsObj oC m₂ → m₂ x = some v → Fr h₀ L h m → News h₀ L h ((I, oI) :: (C, oC) :: (D, LCg.lst ys) :: nw) → LCg.Off3 I C D nw → ((@Ne Nat I C) ∧ (@Ne Nat I D) ∧ (@Ne Nat C D)) →
      wpAny (model prog w) A (eval elt (compEnvC scope cl C env)) (LCg.CompEnd h₀ L m { s with heap := h, toks := tk } I oI C oC D (LCg.lst ys) S (fun y nw' => J (i + 1) (ys ++ [y]) nw')) E' { s with heap := h, toks := tk }) :
    LCg.CompRest prog w A h₀ L m env elt x scope cl s S P Fin n 0 [] news := by
  have key : ∀ k i ys nw, i + k = n → J i ys nw → LCg.CompRest prog w A h₀ L m env elt x scope cl s S P Fin k i ys nw := by
    intro k
    induction k with
    | zero => intro i ys nw hik hJ; exact LCg.CompRest.zero (done ys nw (by rw [← hik]; exact hJ))
    | succ k ih =>
      intro i ys nw hik hJ
      refine LCg.CompRest.succ fun v I oI C oC D m₂ h tk E' hP hC hx F N off ne => ?_
      exact wpAny_mono (turn i ys nw v I oI C oC D m₂ h tk E' (by omega) hJ hP hC hx F N off ne) (fun y s₂ hy => CompEnd.mono hy fun nw' q => ih (i + 1) _ nw' (by omega) q) fun _ _ z => z
  exact key n 0 [] news (Nat.zero_add _) h0
theorem range_n (n : Nat) (hn : n ≤ 1000) : Builtin.Range.small 0 (n : Int) 1 = true ∧ Builtin.Range.rangeSize 0 (n : Int) 1 = ((n : Nat) : Int) := by
  have hsz : Builtin.Range.rangeSize 0 (n : Int) 1 = (n : Int) := by
    unfold Builtin.Range.rangeSize
    rw [if_pos (by decide)]
    split <;> omega
  have hfit : ∀ z : Int, 0 ≤ z → z ≤ 1000000 → Builtin.Range.rangeFitsLong z = true := by
    intro z h1 h2
    unfold Builtin.Range.rangeFitsLong
    simp only [Bool.and_eq_true, decide_eq_true_eq]
    omega
  refine ⟨?_, hsz⟩
  unfold Builtin.Range.small
  rw [hsz]
  simp only [hfit 0 (by omega) (by omega), hfit (n : Int) (by omega) (by omega), hfit 1 (by omega) (by omega), show (1 : Int) > 0 from by decide, if_true, show ((n : Int) + (1 - 1)) = (n : Int) from by omega, Bool.and_self, Bool.or_true]
/-- what is due, as it is made -/
def DuesAt (t : List Nat) (i : Nat) (ys : List Value) (Z : List (Addr × Obj)) : Prop := ys.length = i ∧ ∀ v, v < i → ∃ (a l1 l2 : Addr) (vs1 vs2 : List Value) (e1 e2 : Nat), ys[v]? = some (.ref a) ∧ (a, W.listOf #[.ref l1, .ref l2] 0) ∈ Z ∧ (l1, W.listOf vs1.toArray e1) ∈ Z ∧ (l2, W.listOf vs2.toArray e2) ∈ Z ∧ IntsAre vs1 (dueT t v).1 ∧ IntsAre vs2 (dueT t v).2
section
open PySem.SeqAt
variable {A : Around} {s : Shared}
theorem eqAt_lists {a b : Addr} {xs ys : List Value} (ha : s.heap.IsList a xs.toArray) (hb : s.heap.IsList b ys.toArray) (hl : xs.length = ys.length) (hu : A.units < cLine) (he : ∀ (j : Nat) (x y : Value), xs[j]? = some x → ys[j]? = some y → EqAt A.in1 s x y true) : EqAt A s (.ref a) (.ref b) true := by
  by_cases e : a = b
  · subst e; exact EqAt.same _
  · refine EqAt.of_refs e ?_
    have h := RcAt.lists (e := fun _ => true) ha hb (by simpa using hl) hu (fun j h1 h2 => he j _ _ (by rw [List.size_toArray] at h1; rw [List.getElem?_eq_getElem h1]; simp) (by rw [List.size_toArray] at h2; rw [List.getElem?_eq_getElem h2]; simp))
    have e1 : (List.range xs.toArray.size).all (fun _ => true) = true := by simp
    rw [e1] at h; exact h
theorem eqAt_ints {a b : Addr} {vs us : List Value} {ns : List Int} (hl : s.heap.IsList a vs.toArray) (hi : IntsAre vs ns) (hl' : s.heap.IsList b us.toArray) (hi' : IntsAre us ns) (hu : A.units + 64 < cLine) : EqAt A s (.ref a) (.ref b) true := by
  by_cases e : a = b
  · subst e; exact EqAt.same _
  · refine EqAt.of_refs e fun prog w E Q h => ?_
    exact (eq_intsK hl hi hl' hi' hu (by rw [decide_eq_true rfl]; exact h) : wpAny (model prog w) A (compareOp .Eq (.ref a) (.ref b)) Q E s)
/-- the rows and what is due are alike -/
theorem rows_eq {prog : Program} {w : World} {E : Value → Shared → Prop} {Q : Value → Shared → Prop} {h₀ : Heap} {L a b : Addr} {t : List Nat} {rws ys : List Value} {R Z news : List (Addr × Obj)} (N : News h₀ L s.heap news) (hR : RowsAt t rws R) (hZ : DuesAt t (t.length + 1) ys Z) (sR : ∀ q ∈ R, q ∈ news) (sZ : ∀ q ∈ Z, q ∈ news) (ha : (a, LCg.lst rws) ∈ news) (hb : (b, LCg.lst ys) ∈ news) (hu : A.units + 70 < cLine)
    (h : Q (.bool true) s) : wpAny (model prog w) A (compareOp .Eq (.ref a) (.ref b)) Q E s := by
  have la : s.heap.IsList a rws.toArray := ⟨_, (N _ ha).1, rfl, _, rfl⟩
  have lb : s.heap.IsList b ys.toArray := ⟨_, (N _ hb).1, rfl, _, rfl⟩
  have u1 : A.in1.units = A.units + 1 := rfl
  refine eq_listAt (e := fun _ => true) la lb (by rw [List.size_toArray, List.size_toArray, hR.1, hZ.1]) (by omega) (fun j h1 h2 => ?_) ?_
  · rw [List.size_toArray, hR.1] at h1
    obtain ⟨x, l1, l2, vs1, vs2, e1, m1, m2, m3, i1, i2⟩ := hR.2 j (by omega)
    obtain ⟨x', l1', l2', us1, us2, d1, d2, e1', m1', m2', m3', i1', i2'⟩ := hZ.2 j (by omega)
    have g1 : rws.toArray[j]'(by rw [List.size_toArray, hR.1]; exact h1) = .ref x := by
      rw [List.getElem?_eq_getElem (by rw [hR.1]; exact h1)] at e1
      simpa using Option.some.inj e1
    have g2 : ys.toArray[j]'(by rw [List.size_toArray, hZ.1]; exact h1) = .ref x' := by
      rw [List.getElem?_eq_getElem (by rw [hZ.1]; exact h1)] at e1'
      simpa using Option.some.inj e1'
    rw [g1, g2]
    refine eqAt_lists (xs := [.ref l1, .ref l2]) (ys := [.ref l1', .ref l2']) ⟨_, (N _ (sR _ m1)).1, rfl, _, rfl⟩ ⟨_, (N _ (sZ _ m1')).1, rfl, _, rfl⟩ rfl (by omega) (fun k y z hy hz => ?_)
    have u2 : A.in1.in1.units = A.units + 1 + 1 := rfl
    match k with
    | 0 =>
      cases Option.some.inj hy
      cases Option.some.inj hz
      exact eqAt_ints ⟨_, (N _ (sR _ m2)).1, rfl, _, rfl⟩ i1 ⟨_, (N _ (sZ _ m2')).1, rfl, _, rfl⟩ i1' (by omega)
    | 1 =>
      cases Option.some.inj hy
      cases Option.some.inj hz
      exact eqAt_ints ⟨_, (N _ (sR _ m3)).1, rfl, _, rfl⟩ i2 ⟨_, (N _ (sZ _ m3')).1, rfl, _, rfl⟩ i2' (by omega)
    | k + 2 => simp at hy
  · have : (List.range rws.toArray.size).all (fun _ => true) = true := by simp
    rw [this]; exact h
end
set_option maxHeartbeats 8000000 in
theorem law_holds : PySem.Challenge.rw_rt0101_01.Holds := by
  refine hd ?_
  k_go0
  (all_goals try k_fold)
  rename Fr _ _ _ _ => F0
  rename News _ _ _ _ => N0
  rename Top topProg _ _ _ _ (ghostOf _ _) => T0
  rename (Frag.In _ (ghostOf _ _)) => X0
  rename CodeHd _ (48, 44).fst _ => C1
  rename CodeHd _ (41, 37).fst _ => C2
  rename (IntsAre _ _) => hI
  rename (Heap.IsList (ghostOf _ _) _ _) => hL
  rename (¬ _ < _) => hlen
  have G := Gnd.mk X0 T0 C1 C2 (N0 _ (.tail _ (.head _))).2.2 (N0 _ (.tail _ (.tail _ (.head _)))).2.2
  repeat' (first | (k_unfold; (try dsimp only)) | walk1 | (dsimp only; walk1) | (leave1; (try dsimp only)) | fail "no step")
  (try unfold Stop)
  have rm : Rm callerA 300 := ⟨rfl, by decide +kernel, by decide +kernel⟩
  rename Fr _ _ _ _ => F1
  rename News _ _ _ _ => N1
  refine tree_spec (rm.less (by decide : 101 ≤ 300)).deeper G (fun b o e => F1.keep _ _ e) (let ⟨o, ho, r⟩ := hL; ⟨o, F1.keep _ _ ho, r⟩) hI (by omega) ?_
  intro h2 tk2 r aa wa avs wvs t e1 e2 k2 gaa0 gwa0 gr0 l1 l2 gr gaa gwa h2t h6t ht hav hwv
  have F2 := F1.keeps k2
  have N2 := newsAddF F1 (newsAddF F1 (newsAddF F1 (N1.grown k2) gwa gwa0) gaa gaa0) gr gr0
  clear F1 N1
  repeat' (first | (k_unfold; (try dsimp only)) | walk1 | (dsimp only; walk1) | (leave1; (try dsimp only)) | fail "no step")
  (try unfold Stop)
  rename Fr _ _ _ _ => F3
  rename News _ _ _ _ => N3
  simp only [List.cons_append, List.nil_append] at N3
  obtain ⟨oL, esL, epL, hLg, hLd, hLr⟩ := F3.ns
  refine digits_w (rm.less (by decide : 151 ≤ 300)).deeper G (fun b o e => F3.keep _ _ e) (frs := [(_, oL)]) (Around.frames_deeper rfl) ⟨?f1, rfl, ⟨_, _, hLd⟩, ?f0⟩ (List.forall_mem_singleton.mpr hLg) (List.forall_mem_singleton.mpr (Heap.get?_none_of_le F3.above)) (News.get N3 (List.mem_of_getElem? (i := 2) rfl)) (N3 _ (List.mem_of_getElem? (i := 2) rfl)).2.2
    (List.forall_mem_singleton.mpr ⟨Ne.symm (N3 _ (List.mem_of_getElem? (i := 2) rfl)).2.1, Ne.symm (N3 _ (List.mem_of_getElem? (i := 5) rfl)).2.1, Ne.symm (N3 _ (List.mem_of_getElem? (i := 4) rfl)).2.1⟩) hwv h2t h6t ht (News.get N3 (List.mem_of_getElem? (i := 5) rfl)) (News.get N3 (List.mem_of_getElem? (i := 4) rfl)) ?_
  case f1 => intro e; cases e
  case f0 => exact trivial
  intro h4 tk4 r2 frs' rws R T SU Fs' hfrs kept gr2 fr2 hRows hR hTU hT
  rename (44 < _ ∧ 37 < _) => hl0
  obtain ⟨F4, p1, p2, N5⟩ := law_back F3 N3 hLd hLr (by intro q; cases q) (by intro q; cases q) (Nat.ne_of_gt (Nat.lt_succ_of_lt hl0.2)) (Nat.ne_of_gt (Nat.lt_succ_of_lt hl0.1)) SU hfrs kept gr2 fr2 hR hTU hT
  clear N3 F3 kept hfrs Fs' SU hLg hLd hLr
  dsimp only
  have hwl : wvs.length = t.length + 1 := by rw [strs_len hwv, wys_len]
  have hwb : t.length + 1 ≤ 1000 := by omega
  refine LCg.ListComp_U (F₀ := F4) (by with_unfolding_all rfl) (by decide) (by rfl) (by decide) (by rfl) ?_
  repeat' (first | (k_unfold; (try dsimp only)) | walk1 | (dsimp only; walk1) | (leave1; (try dsimp only)) | fail "no step")
  (try unfold Stop)
  rename Fr _ _ _ _ => F6
  rename News _ _ _ _ => N6
  rename (IsRange _ _ _ _ _ _ _ _) => hr6
  obtain ⟨rs1, rs2⟩ := range_n (t.length + 1) hwb
  refine LCg.CompSrc.range (n := t.length + 1) rfl F6 N6 hr6 rs1 rs2 (by rw [sizeLine_eq]; omega) ?_
  intro g5
  refine compG_ind (fun i ys nw => ∃ Z, nw = (r2, LCg.lst rws) :: (aa, W.listOf avs.toArray e1) :: (wa, W.listOf wvs.toArray e2) :: (_, _) :: (37, tabObj p1) :: (44, tabObj p2) :: (R ++ Z) ∧ DuesAt t i ys Z) ⟨[], by rw [List.append_nil], rfl, fun v q => absurd q (Nat.not_lt_zero _)⟩ ?_ ?_
  · rintro ys nw ⟨Z, rfl, hys⟩ D h8 tk8 F8 N8 o8
    clear F6 N6 F4 N5
    refine rows_eq N8 hRows hys (fun q hq => by walk_at "m_mem") (fun q hq => by walk_at "m_mem") (.tail _ (.head _)) (.head _) (by show 4 + 3 + 70 < cLine; decide +kernel) ?_
    k_steps
  · rintro i ys nw v I oI C oC' D m₂ h7 tk7 E' hi ⟨Z, rfl, hyl, hys⟩ ⟨tv, rfl⟩ hC hx F7 N7 off ne
    clear F6 N6 F4 N5
    rw [Int.zero_add] at hx
    have nI : ∀ {z : Addr}, h7.get? z = none → z ≠ I ∧ z ≠ C ∧ z ≠ D := fun {z} hz => by
      have a1 := News.get N7 (.head _)
      have a2 := News.get N7 (.tail _ (.head _))
      have a3 := News.get N7 (.tail _ (.tail _ (.head _)))
      refine ⟨fun e => ?_, fun e => ?_, fun e => ?_⟩
      · rw [e, a1] at hz; cases hz
      · rw [e, a2] at hz; cases hz
      · rw [e, a3] at hz; cases hz
    repeat' (first | (k_unfold; (try dsimp only)) | walk1 | (dsimp only; walk1) | (leave1; (try dsimp only)) | fail "no step")
    unfold Stop
    rename Fr _ _ _ _ => F9
    rename News _ _ _ _ => N9
    refine due_spec (rm.less (by decide : 111 ≤ 300)).deeper G (fun b o e => F9.keep _ _ e) ⟨_, News.get N9 (List.mem_of_getElem? (i := 4) rfl), rfl, _, rfl⟩ hav h6t ht (by omega) ?_
    intro h9 tk9 ra la lb va vb ea eb k9 fra fla flb gra gla glb hva hvb
    have F10 := F9.keeps k9
    have N10 := newsAddF F9 (newsAddF F9 (newsAddF F9 (N9.grown k9) gla fla) glb flb) gra fra
    repeat' (first | (k_unfold; (try dsimp only)) | walk1 | (dsimp only; walk1) | (leave1; (try dsimp only)) | fail "no step")
    (try unfold Stop)
    rename Fr _ _ _ _ => F11
    rename News _ _ _ _ => N11
    have off3 := LCg.Off3.mem off
    refine LCg.CompEnd.intro F11 N11 ((r2, LCg.lst rws) :: (aa, W.listOf avs.toArray e1) :: (wa, W.listOf wvs.toArray e2) :: (_, _) :: (37, tabObj p1) :: (44, tabObj p2) :: (R ++ ((ra, W.listOf #[.ref la, .ref lb] 0) :: (la, W.listOf va.toArray ea) :: (lb, W.listOf vb.toArray eb) :: Z))) ?_ ?_ trivial ⟨_, rfl, by rw [List.length_append, hyl]; rfl, ?_⟩
    · intro q hq
      revert q
      walk_at "m_sub"
    · exact LCg.Off3.of (fa_cons (off3 _ (by walk_at "m_mem")) (fa_cons (off3 _ (by walk_at "m_mem")) (fa_cons (off3 _ (by walk_at "m_mem")) (fa_cons (off3 _ (by walk_at "m_mem")) (fa_cons (off3 _ (by walk_at "m_mem")) (fa_cons (off3 _ (by walk_at "m_mem")) (fa_app (fun q hq => off3 q (by walk_at "m_mem")) (fa_cons (nI fra) (fa_cons (nI fla) (fa_cons (nI flb) fun q hq => off3 q (by walk_at "m_mem")))))))))))
    · intro v hv
      by_cases hvi : v < i
      · obtain ⟨a, l1, l2, vs1, vs2, x1, x2, h1, h2, h3, h4, h5, h6⟩ := hys v hvi
        exact ⟨a, l1, l2, vs1, vs2, x1, x2, by rw [List.getElem?_append_left (by omega)]; exact h1, .tail _ (.tail _ (.tail _ h2)), .tail _ (.tail _ (.tail _ h3)), .tail _ (.tail _ (.tail _ h4)), h5, h6⟩
      · obtain rfl : v = i := by omega
        exact ⟨ra, la, lb, va, vb, ea, eb, by rw [List.getElem?_append_right (by omega), hyl, Nat.sub_self]; rfl, .head _, .tail _ (.head _), .tail _ (.tail _ (.head _)), hva, hvb⟩
end

end
end
end
end Mine
theorem PySem.Challenge.cw_rt0101_01_holds : PySem.Challenge.rw_rt0101_01.Holds := by
  exact Mine.law_holds
