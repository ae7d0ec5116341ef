import PyProof.Rows.All
import Wide.All
import OpenK.AllK
import Wide.FinOn
import Lean
import PySem.Challenge.RW_gm0006_01
open PySem PySem.W PyProof.Rows PySem.Calls PySem.Spec
set_option Elab.async false
set_option maxRecDepth 100000
set_option maxHeartbeats 8000000

section

section
namespace Mine
open_top hd for PySem.Challenge.rw_gm0006_01
end Mine
end

section
namespace Mine


-- a goal at which the walk stands still, whatever is unfolded
structure Halt (P : Prop) : Prop where
  mk :: (out : P)
-- what the callers keep fixed: the world and the names' meaning at the top
structure Cx where
  w : World
  loose : List Str
  mean : ExcName → Option Value
  mg : Str → Option Value
  mb : Str → Option Value
noncomputable def Cx.At (c : Cx) (h : Heap) : Prop := (hd.heap_39 c.w.params).In h ∧ Top topProg c.loose c.mean c.mg c.mb h
theorem Cx.At.keeps {c : Cx} {h h' : Heap} (x : c.At h) (k : h.StaysIn h') : c.At h' := ⟨x.1.keeps k, x.2.keeps k⟩

-- the objects tl stand in h' and are new since h
noncomputable def Fresh (h h' : Heap) (tl : List (Addr × Obj)) : Prop := ∀ p ∈ tl, h'.get? p.1 = some p.2 ∧ h.get? p.1 = none

-- the contract of a call that changes nothing of what stood: it ends, hands back r, and has made (at least) tl
noncomputable def PC (c : Cx) (f : Addr) (vs : List Value) (n : Nat) (s : Shared) (Post : List (Addr × Obj) → Value → Prop) : Prop :=
  ∀ (A : Around) (Q E : Value → Shared → Prop), A.handled = none → A.depth + n < recursionLimit → A.units + 8 * n + 200 < cLine → c.At s.heap →
    (∀ r tl h' tk', s.heap.StaysIn h' → Fresh s.heap h' tl → Post tl r → Q r { s with heap := h', toks := tk' }) →
    wpAny (model Challenge.rw_gm0006_01.row.prog c.w) A (call (.ref f) vs) Q E s

section
variable {c : Cx} {h₀ h h' : Heap} {L : Addr} {m : Str → Option Value} {news tl : List (Addr × Obj)}
theorem news_fresh (F : Fr h₀ L h m) (N : News h₀ L h news) (k : h.StaysIn h') (x : Fresh h h' tl) : News h₀ L h' (news ++ tl) := fun p hp => by
  rcases List.mem_append.mp hp with hp | hp
  · exact ⟨k _ _ (N p hp).1, (N p hp).2⟩
  · obtain ⟨a, b⟩ := x p hp
    refine ⟨a, fun e => ?_, ?_⟩
    · obtain ⟨oL, _, _, hL, _⟩ := F.ns
      rw [e, hL] at b; cases b
    · cases q : h₀.get? p.1 with
      | none => rfl
      | some o => rw [F.keep _ _ q] at b; cases b
theorem fresh_of_news {g : Heap} (F : Fr g L h' m) (N : News g L h' news) (k : h.StaysIn g) : Fresh h h' news := fun p hp => by
  obtain ⟨a, _, b⟩ := N p hp
  refine ⟨a, ?_⟩
  cases q : h.get? p.1 with
  | none => rfl
  | some o => rw [k _ _ q] at b; cases b
theorem Fresh.sub {tl' : List (Addr × Obj)} (x : Fresh h h' tl) (hs : ∀ p ∈ tl', p ∈ tl) : Fresh h h' tl' := fun p hp => x p (hs p hp)

theorem PC.use {f : Addr} {vs : List Value} {n : Nat} {s : Shared} {Post : List (Addr × Obj) → Value → Prop} {A : Around} {Q E : Value → Shared → Prop}
    (P : PC c f vs n s Post) (F : Fr h₀ L s.heap m) (N : News h₀ L s.heap news) (X : (hd.heap_39 c.w.params).In h₀) (T : Top topProg c.loose c.mean c.mg c.mb h₀) (hA : A.handled = none)
    (hd : A.depth + n < recursionLimit) (hu : A.units + 8 * n + 200 < cLine)
    (h : ∀ r tl h' tk', Fr h₀ L h' m → News h₀ L h' (news ++ tl) → s.heap.StaysIn h' → Post tl r → Q r { s with heap := h', toks := tk' }) :
    wpAny (model Challenge.rw_gm0006_01.row.prog c.w) A (call (.ref f) vs) Q E s :=
  P A Q E hA hd hu ⟨X.keeps F.keep, T.keeps F.keep⟩ fun r tl h' tk' k x p => h r tl h' tk' (F.keeps k) (news_fresh F N k x) k p
theorem PC.use2 {f : Addr} {vs : List Value} {n : Nat} {s : Shared} {Post : List (Addr × Obj) → Value → Prop} {A : Around} {Q E : Value → Shared → Prop}
    (P : PC c f vs n s Post) (F : Fr h₀ L s.heap m) (N : News h₀ L s.heap news) (X : (hd.heap_39 c.w.params).In h₀) (T : Top topProg c.loose c.mean c.mg c.mb h₀) (hA : A.handled = none)
    (hd : A.depth + n < recursionLimit) (hu : A.units + 8 * n + 200 < cLine)
    (h : ∀ r tl h' tk', Fr h₀ L h' m → News h₀ L h' news → News h₀ L h' tl → s.heap.StaysIn h' → (∀ q ∈ news, ∀ p ∈ tl, q.1 ≠ p.1) → Post tl r → Q r { s with heap := h', toks := tk' }) :
    wpAny (model Challenge.rw_gm0006_01.row.prog c.w) A (call (.ref f) vs) Q E s :=
  P A Q E hA hd hu ⟨X.keeps F.keep, T.keeps F.keep⟩ fun r tl h' tk' k x p => h r tl h' tk' (F.keeps k) (N.grown k) (fun q hq => news_fresh F N k x q (List.mem_append_right _ hq)) k
    (fun q hq p hp e => by have h1 := (N q hq).1; rw [e, (x p hp).2] at h1; cases h1) p
end

section
variable {c : Cx} {A : Around} {s : Shared} {Q E : Value → Shared → Prop} {name qual : Str} {params : Arguments} {body : List Stmt} {scope : Scope} {dV kV doc pm cdv ct oc : Value} {an od : Option Addr}
  {osl : Array (Option Value)} {f : Addr} {args : List Value} {binds : List (Str × Value)}

theorem enter_plain (H : c.At s.heap) (hroom : A.depth < recursionLimit)
    (ho : (hd.heap_39 c.w.params).lookup f = some ⟨oc, od, .func (fnOf name qual params body scope dV kV doc pm an cdv ct), osl⟩) (hcd : codeIn (hd.heap_39 c.w.params) cdv qual = true)
    (hbind : BindsTo s (fnOf name qual params body scope dV kV doc pm an cdv ct) ⟨args, []⟩ binds) (hloc : ∀ y ∈ binds, scope.names.lookup y.1 = some .local)
    (h : ∀ g L' h₁, s.heap.StaysIn g → Fr g L' h₁ (fun y => binds.reverse.lookup y) → News g L' h₁ [] → (hd.heap_39 c.w.params).In g → Top topProg c.loose c.mean c.mg c.mb g →
      wpAny (model Challenge.rw_gm0006_01.row.prog c.w) (A.deeper (envOf qual scope L' f cdv)) (execs body (envOf qual scope L' f cdv)) (fun fl s' => Q (match fl with | .ret v => v | _ => .none) s') (fun _ _ => False)
        { s with heap := h₁, toks := s.toks + binds.length })
    (hco : scope.isCoroutine = false) (hgen : scope.isGenerator = false) (hk : scope.kind = .function) (hcell : ∀ x ∈ scope.names, x.2 ≠ .cell) :
    wpAny (model Challenge.rw_gm0006_01.row.prog c.w) A (call (.ref f) args) Q E s := by
  refine wpAny_call ?_
  refine codeAny_call_def (fd := fnOf name qual params body scope dV kV doc pm an cdv ct) (body := body) (binds := binds) hroom (H.1 _ _ ho) rfl H.2.nolimit (codeRec_of H.1 hcd) rfl hbind hcell hloc (fun h₁ hns hk₁ => ?_) hco hgen hk
  refine wpAny_mono (h s.heap s.heap.objs.size h₁ (fun _ _ e => e) ⟨hns, hk₁, Nat.le_refl _⟩ News.nil H.1 H.2) (fun fl s' q => q) fun _ _ q => q.elim

theorem enter_cells (H : c.At s.heap) (hroom : A.depth < recursionLimit)
    (ho : (hd.heap_39 c.w.params).lookup f = some ⟨oc, od, .func (fnOf name qual params body scope dV kV doc pm an cdv ct), osl⟩) (hcd : codeIn (hd.heap_39 c.w.params) cdv qual = true)
    (hbind : BindsTo s (fnOf name qual params body scope dV kV doc pm an cdv ct) ⟨args, []⟩ binds) (hkind : (binds.all fun y => scope.names.lookup y.1 == some .local || scope.names.lookup y.1 == some .cell) = true)
    (hnd : ((cellsFrom 0 scope.names []).map (·.1)).Nodup)
    (h : ∀ g L' h₁ tk cells, s.heap.StaysIn g → Fr g L' h₁ (bindL (envOfC qual scope L' f cdv).kindOf binds fun _ => none) → News g L' h₁ cells →
      CellsAre (bindC (envOfC qual scope L' f cdv).kindOf binds fun _ => none) (cellsFrom (L' + 1) scope.names []) cells → (hd.heap_39 c.w.params).In g → Top topProg c.loose c.mean c.mg c.mb g →
      wpAny (model Challenge.rw_gm0006_01.row.prog c.w) (A.deeper (envOfC qual scope L' f cdv)) (execs body (envOfC qual scope L' f cdv)) (fun fl s' => Q (match fl with | .ret v => v | _ => .none) s') (fun _ _ => False)
        { s with heap := h₁, toks := tk })
    (hco : scope.isCoroutine = false) (hgen : scope.isGenerator = false) (hk : scope.kind = .function) :
    wpAny (model Challenge.rw_gm0006_01.row.prog c.w) A (call (.ref f) args) Q E s := by
  refine wpAny_call ?_
  refine codeAny_call_function hroom (H.1 _ _ ho) rfl hco hgen rfl (codeRec_of H.1 hcd) (hbind _ _ _ _ ?_)
  refine wpAny_newFunctionEnv_cells hk (kindsX hkind _) fun env' he s' x => ?_
  subst he
  refine ⟨H.2.nolimit.keeps x.toInCall.keep, codeAny_func ?_⟩
  obtain ⟨h₁, tk, rfl, _⟩ := x.done
  obtain ⟨cells, NC, Y⟩ := Cl.news (h₀ := s.heap) (Nat.le_refl _) fun n c hm => ⟨x.cell n c (lookup_of_mem_nodup (cellsFrom_names scope.names 0 (s.heap.objs.size + 1) [] [] rfl ▸ hnd) hm), x.above n c hm⟩
  exact wpAny_mono (h s.heap s.heap.objs.size h₁ tk cells (fun _ _ e => e) ⟨x.toInCall.ns, x.toInCall.keep, Nat.le_refl _⟩ NC Y H.1 H.2) (fun fl s' q => q) fun _ _ q => q.elim
end
end Mine
end

section
namespace Mine
inductive Tree where
  | nil
  | node (i : Int) (l r : Tree)
  deriving DecidableEq
noncomputable def Tree.size : Tree → Nat
  | .nil => 0
  | .node _ l r => l.size + r.size + 1
noncomputable def Tree.told : Tree → List Int
  | .nil => []
  | .node i l r => l.told ++ [i] ++ r.told
noncomputable def Tree.ahead : Tree → List Int
  | .nil => []
  | .node i l r => [i] ++ l.ahead ++ r.ahead
noncomputable def Tree.sizes : Tree → List Int
  | .nil => []
  | .node i l r => [((Tree.node i l r).told.length : Int)] ++ l.sizes ++ r.sizes

-- the heap bears the tree at the value
inductive TreeAt (h : Heap) : Value → Tree → Prop where
  | nil : TreeAt h .none .nil
  | node {a : Addr} {i : Int} {tk : Tok} {v1 v2 : Value} {l r : Tree} :
      IsTup h a #[.int i tk, v1, v2] → TreeAt h v1 l → TreeAt h v2 r → TreeAt h (.ref a) (.node i l r)
theorem TreeAt.keeps {h h' : Heap} {v : Value} {t : Tree} (x : TreeAt h v t) (k : h.StaysIn h') : TreeAt h' v t := by
  induction x with
  | nil => exact .nil
  | node hm _ _ ih1 ih2 => exact .node (hm.keeps k) ih1 ih2

-- a ledger bears the tree at the value
inductive TreeIn (news : List (Addr × Obj)) : Value → Tree → Prop where
  | nil : TreeIn news .none .nil
  | node {a : Addr} {i : Int} {tk : Tok} {v1 v2 : Value} {l r : Tree} {n : Nat} :
      (a, ({ cls := .type "tuple", data := .seq #[.int i tk, v1, v2] n } : Obj)) ∈ news → TreeIn news v1 l → TreeIn news v2 r → TreeIn news (.ref a) (.node i l r)
theorem TreeIn.mono {news news' : List (Addr × Obj)} {v : Value} {t : Tree} (h : TreeIn news v t) (hs : ∀ p ∈ news, p ∈ news') : TreeIn news' v t := by
  induction h with
  | nil => exact .nil
  | node hm _ _ ih1 ih2 => exact .node (hs _ hm) ih1 ih2
theorem TreeIn.at {news : List (Addr × Obj)} {h₀ h : Heap} {L : Addr} {v : Value} {t : Tree} (x : TreeIn news v t) (N : News h₀ L h news) : TreeAt h v t := by
  induction x with
  | nil => exact .nil
  | node hm _ _ ih1 ih2 => exact .node ⟨_, (N _ hm).1, rfl, _, rfl⟩ ih1 ih2

-- a list of ints, in the heap and in a ledger
noncomputable def IntsAt (h : Heap) (v : Value) (ns : List Int) : Prop := ∃ a vs, v = .ref a ∧ h.IsList a (vs : List Value).toArray ∧ IntsAre vs ns
theorem IntsAt.keeps {h h' : Heap} {v : Value} {ns : List Int} (x : IntsAt h v ns) (k : h.StaysIn h') : IntsAt h' v ns := by
  obtain ⟨a, vs, e, hl, hi⟩ := x
  exact ⟨a, vs, e, stays_list k hl, hi⟩
inductive IntsIn (news : List (Addr × Obj)) : Value → List Int → Prop where
  | mk {a : Addr} {vs : List Value} {ns : List Int} {n : Nat} : (a, listOf vs.toArray n) ∈ news → IntsAre vs ns → IntsIn news (.ref a) ns
theorem IntsIn.mono {news news' : List (Addr × Obj)} {v : Value} {t : List Int} (h : IntsIn news v t) (hs : ∀ p ∈ news, p ∈ news') : IntsIn news' v t := by
  cases h with
  | mk hm h => exact .mk (hs _ hm) h
theorem IntsIn.at {news : List (Addr × Obj)} {h₀ h : Heap} {L : Addr} {v : Value} {t : List Int} (x : IntsIn news v t) (N : News h₀ L h news) : IntsAt h v t := by
  cases x with
  | mk hm h => exact ⟨_, _, rfl, ⟨_, (N _ hm).1, rfl, _, rfl⟩, h⟩
theorem TreeAt.now {s g h : Heap} {L : Addr} {m : Str → Option Value} {v : Value} {t : Tree} (x : TreeAt s v t) (k : s.StaysIn g) (F : Fr g L h m) : TreeAt h v t := (x.keeps k).keeps F.keep
theorem ints_here {h₀ h : Heap} {L a : Addr} {news : List (Addr × Obj)} {vs : List Value} {ns : List Int} {n : Nat} (N : News h₀ L h news) (hm : (a, listOf vs.toArray n) ∈ news) (hi : IntsAre vs ns) : IntsAt h (.ref a) ns := ⟨_, _, rfl, N.isList hm, hi⟩
section
variable {prog : Program} {w : World} {A : Around} {E : Value → Shared → Prop} {s : Shared} {h₀ : Heap} {L : Addr} {m : Str → Option Value} {news : List (Addr × Obj)}
theorem add_intsM {v1 v2 : Value} {ns ms : List Int} {Q : Value → Shared → Prop} (F : Fr h₀ L s.heap m) (N : News h₀ L s.heap news) (ha : IntsAt s.heap v1 ns) (hb : IntsAt s.heap v2 ms) (hsz : ns.length + ms.length ≤ 100000)
    (h : ∀ l h' vs, Fr h₀ L h' m → News h₀ L h' ((l, listOf vs.toArray 0) :: news) → IntsAre vs (ns ++ ms) → Q (.ref l) { s with heap := h' }) :
    wpAny (model prog w) A (binaryOp .Add v1 v2) Q E s := by
  obtain ⟨a, vs, rfl, hl, hi⟩ := ha
  obtain ⟨b, us, rfl, hl2, hi2⟩ := hb
  exact add_arrays_ints F N hl hl2 hi hi2 (fun h' F' N' hij => h _ h' _ F' N' hij) (Nat.le_trans hsz (by decide))
end
end Mine
end

section
namespace Mine

theorem told_length : ∀ t : Tree, t.told.length = t.size
  | .nil => rfl
  | .node i l r => by simp only [Tree.told, Tree.size, List.length_append, List.length_singleton, told_length l, told_length r]; omega
theorem told_pc (c : Cx) : ∀ (t : Tree) (s : Shared) (v : Value), t.size ≤ 1000 → TreeAt s.heap v t → PC c 86 [v] (t.size + 1) s (fun tl r => IntsIn tl r t.told) := by
  intro t
  induction t with
  | nil =>
    intro s v hsz hR
    cases hR
    unfold PC Cx.At
    k_fill
    intro A Q E hA hd hu H hret
    obtain ⟨hdl, dp, fr, gd, un⟩ := A
    cases hA
    dsimp only [Tree.size] at hd hu hsz
    (k_dflt (refine' enter_plain ?H ?room ?k6 ?k7 ?k9 ?kB ?_ ?c2 ?c3 ?c4 ?c5; (case H => assumption); (case k6 => k_is); (case k7 => k_is); (case k9 => exact BindsTo.of_eq rfl); (case c5 => decide); (case kB => exact locs rfl); (case c2 => exact rfl); (case c3 => exact rfl); (case c4 => exact rfl); (case room => (dsimp only; omega)); k_whole))
    intro g L' h1 kG F1 N1 X1 T1
    (try dsimp only); (try k_fold)
    k_steps
    exact hret _ _ _ _ (fun b o e => Fr.keep (by assumption) _ _ (kG _ _ e)) (fresh_of_news (by assumption) (by assumption) kG) (.mk (.head _) .nil)
  | node i l r ihl ihr =>
    intro s v hsz hR
    cases hR with
    | node ht ht1 ht2 =>
    unfold PC Cx.At
    k_fill
    intro A Q E hA hd hu H hret
    obtain ⟨hdl, dp, fr, gd, un⟩ := A
    cases hA
    dsimp only [Tree.size] at hd hu hsz
    (k_dflt (refine' enter_plain ?H ?room ?k6 ?k7 ?k9 ?kB ?_ ?c2 ?c3 ?c4 ?c5; (case H => assumption); (case k6 => k_is); (case k7 => k_is); (case k9 => exact BindsTo.of_eq rfl); (case c5 => decide); (case kB => exact locs rfl); (case c2 => exact rfl); (case c3 => exact rfl); (case c4 => exact rfl); (case room => (dsimp only; omega)); k_whole))
    intro g L' h1 kG F1 N1 X1 T1
    (try dsimp only); (try k_fold)
    have htg := ht.keeps kG
    k_steps
    refine PC.use (ihl _ _ (by omega) (ht1.now kG (by assumption))) (by assumption) (by assumption) X1 T1 rfl (by dsimp [Around.deeper]; omega) (by dsimp [Around.deeper]; omega) ?_
    intro r1 tl1 h2 tk2 F2 N2 k2 p1
    clear F1 N1
    k_steps
    (rename Fr _ _ _ _ => F3); (rename News _ _ _ _ => N3)
    refine add_intsM F3 N3 ((p1.mono ?_).at N3) (ints_here N3 (.head _) (.cons i _ .nil)) ?_ ?_
    · intro p hp; simp [hp]
    · have := told_length l; simp only [List.length_singleton]; omega
    intro l4 h4 vs4 F4 N4 i4
    clear F3 N3
    k_steps
    refine PC.use (ihr _ _ (by omega) (ht2.now kG (by assumption))) (by assumption) (by assumption) X1 T1 rfl (by dsimp [Around.deeper]; omega) (by dsimp [Around.deeper]; omega) ?_
    intro r5 tl5 h5 tk5 F5 N5 k5 p5
    k_steps
    refine add_intsM F5 N5 (ints_here N5 (.head _) i4) ((p5.mono ?_).at N5) ?_ ?_
    · intro p hp; simp [hp]
    · have := told_length l; have := told_length r; simp only [List.length_append, List.length_singleton]; omega
    intro l6 h6 vs6 F6 N6 i6
    k_steps
    exact hret _ _ _ _ (fun b o e => Fr.keep F6 _ _ (kG _ _ e)) (fresh_of_news F6 N6 kG) (.mk (.head _) i6)
end Mine
end

section
namespace Mine

theorem ahead_length : ∀ t : Tree, t.ahead.length = t.size
  | .nil => rfl
  | .node i l r => by simp only [Tree.ahead, Tree.size, List.length_append, List.length_singleton, ahead_length l, ahead_length r]; omega
theorem ahead_pc (c : Cx) : ∀ (t : Tree) (s : Shared) (v : Value), t.size ≤ 1000 → TreeAt s.heap v t → PC c 93 [v] (t.size + 1) s (fun tl r => IntsIn tl r t.ahead) := by
  intro t
  induction t with
  | nil =>
    intro s v hsz hR
    cases hR
    unfold PC Cx.At
    k_fill
    intro A Q E hA hd hu H hret
    obtain ⟨hdl, dp, fr, gd, un⟩ := A
    cases hA
    dsimp only [Tree.size] at hd hu hsz
    (k_dflt (refine' enter_plain ?H ?room ?k6 ?k7 ?k9 ?kB ?_ ?c2 ?c3 ?c4 ?c5; (case H => assumption); (case k6 => k_is); (case k7 => k_is); (case k9 => exact BindsTo.of_eq rfl); (case c5 => decide); (case kB => exact locs rfl); (case c2 => exact rfl); (case c3 => exact rfl); (case c4 => exact rfl); (case room => (dsimp only; omega)); k_whole))
    intro g L' h1 kG F1 N1 X1 T1
    (try dsimp only); (try k_fold)
    k_steps
    exact hret _ _ _ _ (fun b o e => Fr.keep (by assumption) _ _ (kG _ _ e)) (fresh_of_news (by assumption) (by assumption) kG) (.mk (.head _) .nil)
  | node i l r ihl ihr =>
    intro s v hsz hR
    cases hR with
    | node ht ht1 ht2 =>
    unfold PC Cx.At
    k_fill
    intro A Q E hA hd hu H hret
    obtain ⟨hdl, dp, fr, gd, un⟩ := A
    cases hA
    dsimp only [Tree.size] at hd hu hsz
    (k_dflt (refine' enter_plain ?H ?room ?k6 ?k7 ?k9 ?kB ?_ ?c2 ?c3 ?c4 ?c5; (case H => assumption); (case k6 => k_is); (case k7 => k_is); (case k9 => exact BindsTo.of_eq rfl); (case c5 => decide); (case kB => exact locs rfl); (case c2 => exact rfl); (case c3 => exact rfl); (case c4 => exact rfl); (case room => (dsimp only; omega)); k_whole))
    intro g L' h1 kG F1 N1 X1 T1
    (try dsimp only); (try k_fold)
    have htg := ht.keeps kG
    k_steps
    refine PC.use (ihl _ _ (by omega) (ht1.now kG (by assumption))) (by assumption) (by assumption) X1 T1 rfl (by dsimp [Around.deeper]; omega) (by dsimp [Around.deeper]; omega) ?_
    intro r2 tl2 h2 tk2 F2 N2 k2 p2
    refine add_intsM F2 N2 (ints_here N2 (.head _) (.cons i _ .nil)) ((p2.mono ?_).at N2) ?_ ?_
    · intro p hp; simp [hp]
    · have := ahead_length l; simp only [List.length_singleton]; omega
    intro l4 h4 vs4 F4 N4 i4
    k_steps
    refine PC.use (ihr _ _ (by omega) (ht2.now kG (by assumption))) (by assumption) (by assumption) X1 T1 rfl (by dsimp [Around.deeper]; omega) (by dsimp [Around.deeper]; omega) ?_
    intro r5 tl5 h5 tk5 F5 N5 k5 p5
    refine add_intsM F5 N5 (ints_here N5 (.head _) i4) ((p5.mono ?_).at N5) ?_ ?_
    · intro p hp; simp [hp]
    · have := ahead_length l; have := ahead_length r; simp only [List.length_append, List.length_singleton]; omega
    intro l6 h6 vs6 F6 N6 i6
    k_steps
    exact hret _ _ _ _ (fun b o e => Fr.keep F6 _ _ (kG _ _ e)) (fresh_of_news F6 N6 kG) (.mk (.head _) i6)
end Mine
end

section
namespace Mine

theorem sizes_length : ∀ t : Tree, t.sizes.length = t.size
  | .nil => rfl
  | .node i l r => by simp only [Tree.sizes, Tree.size, List.length_append, List.length_singleton, sizes_length l, sizes_length r]; omega
theorem sizes_pc (c : Cx) : ∀ (t : Tree) (s : Shared) (v : Value), t.size ≤ 1000 → TreeAt s.heap v t → PC c 100 [v] (t.size + 2) s (fun tl r => IntsIn tl r t.sizes) := by
  intro t
  induction t with
  | nil =>
    intro s v hsz hR
    cases hR
    unfold PC Cx.At
    k_fill
    intro A Q E hA hd hu H hret
    obtain ⟨hdl, dp, fr, gd, un⟩ := A
    cases hA
    dsimp only [Tree.size] at hd hu hsz
    (k_dflt (refine' enter_plain ?H ?room ?k6 ?k7 ?k9 ?kB ?_ ?c2 ?c3 ?c4 ?c5; (case H => assumption); (case k6 => k_is); (case k7 => k_is); (case k9 => exact BindsTo.of_eq rfl); (case c5 => decide); (case kB => exact locs rfl); (case c2 => exact rfl); (case c3 => exact rfl); (case c4 => exact rfl); (case room => (dsimp only; omega)); k_whole))
    intro g L' h1 kG F1 N1 X1 T1
    (try dsimp only); (try k_fold)
    k_steps
    exact hret _ _ _ _ (fun b o e => Fr.keep (by assumption) _ _ (kG _ _ e)) (fresh_of_news (by assumption) (by assumption) kG) (.mk (.head _) .nil)
  | node i l r ihl ihr =>
    intro s v hsz hR
    have hR0 := hR
    cases hR with
    | node ht ht1 ht2 =>
    unfold PC Cx.At
    k_fill
    intro A Q E hA hd hu H hret
    obtain ⟨hdl, dp, fr, gd, un⟩ := A
    cases hA
    dsimp only [Tree.size] at hd hu hsz
    (k_dflt (refine' enter_plain ?H ?room ?k6 ?k7 ?k9 ?kB ?_ ?c2 ?c3 ?c4 ?c5; (case H => assumption); (case k6 => k_is); (case k7 => k_is); (case k9 => exact BindsTo.of_eq rfl); (case c5 => decide); (case kB => exact locs rfl); (case c2 => exact rfl); (case c3 => exact rfl); (case c4 => exact rfl); (case room => (dsimp only; omega)); k_whole))
    intro g L' h1 kG F1 N1 X1 T1
    (try dsimp only); (try k_fold)
    have htg := ht.keeps kG
    k_steps
    refine PC.use (told_pc c _ _ _ (by dsimp only [Tree.size]; omega) (hR0.now kG (by assumption))) (by assumption) (by assumption) X1 T1 rfl (by dsimp [Around.deeper, Tree.size]; omega) (by dsimp [Around.deeper, Tree.size]; omega) ?_
    intro r7 tl7 h7 tk7 F7 N7 k7 p7
    obtain ⟨a7, vs7, rfl, hl7, hi7⟩ := (p7.mono (fun p hp => List.mem_append_right [] hp)).at N7
    have hn7 := told_length (.node i l r)
    dsimp only [Tree.size] at hn7
    k_steps
    refine PC.use (ihl _ _ (by omega) (ht1.now kG (by assumption))) (by assumption) (by assumption) X1 T1 rfl (by dsimp [Around.deeper]; omega) (by dsimp [Around.deeper]; omega) ?_
    intro r2 tl2 h2 tk2 F2 N2 k2 p2
    refine add_intsM F2 N2 (ints_here N2 (.head _) (.cons _ _ .nil)) ((p2.mono ?_).at N2) ?_ ?_
    · intro p hp; simp [hp]
    · have := sizes_length l; simp only [List.length_singleton]; omega
    intro l4 h4 vs4 F4 N4 i4
    k_steps
    refine PC.use (ihr _ _ (by omega) (ht2.now kG (by assumption))) (by assumption) (by assumption) X1 T1 rfl (by dsimp [Around.deeper]; omega) (by dsimp [Around.deeper]; omega) ?_
    intro r5 tl5 h5 tk5 F5 N5 k5 p5
    refine add_intsM F5 N5 (ints_here N5 (.head _) i4) ((p5.mono ?_).at N5) ?_ ?_
    · intro p hp; simp [hp]
    · have := sizes_length l; have := sizes_length r; simp only [List.length_append, List.length_singleton]; omega
    intro l6 h6 vs6 F6 N6 i6
    k_steps
    exact hret _ _ _ _ (fun b o e => Fr.keep F6 _ _ (kG _ _ e)) (fresh_of_news F6 N6 kG) (.mk (.head _) i6)
end Mine
end

section
namespace Mine
theorem ints_mem {vs : List Value} {ns : List Int} (h : IntsAre vs ns) : ∀ v ∈ vs, ∃ n t, v = .int n t ∧ n ∈ ns := by
  induction h with
  | nil => intro v hv; cases hv
  | cons n t _ ih =>
    intro v hv
    rcases List.mem_cons.mp hv with rfl | hv
    · exact ⟨n, t, rfl, .head _⟩
    · obtain ⟨k, u, e, hk⟩ := ih v hv
      exact ⟨k, u, e, .tail _ hk⟩
noncomputable def liftP (p : Int → Bool) : Value → Bool
  | .int n _ => p n
  | _ => false
theorem ints_filter {vs : List Value} {ns : List Int} (p : Int → Bool) (h : IntsAre vs ns) : IntsAre (vs.filter (liftP p)) (ns.filter p) := by
  induction h with
  | nil => exact .nil
  | cons n t _ ih =>
    by_cases hp : p n = true
    · rw [List.filter_cons_of_pos hp, List.filter_cons_of_pos (show liftP p (.int n t) = true from hp)]; exact .cons _ _ ih
    · rw [List.filter_cons_of_neg hp, List.filter_cons_of_neg (show ¬ liftP p (.int n t) = true from hp)]; exact ih
theorem paired_eq : ∀ {l l' : List Value}, Paired (fun v y => y = v) l l' → l' = l
  | _, _, .nil => rfl
  | _, _, .cons h t => by rw [h, paired_eq t]
section
variable {prog : Program} {w : World} {A : Around} {E : Value → Shared → Prop} {s : Shared} {env : Env} {h₀ : Heap} {L : Addr} {m : Str → Option Value} {news : List (Addr × Obj)}
theorem comp_filter {x : Str} {px px2 : Pos} {iter test : Expr} {scope : Scope} {cl : List (Str × Addr)} {pos : Pos} {a : Addr} {vs : List Value} {ns : List Int} {Q : Value → Shared → Prop} (p : Int → Bool)
    (hclos : closureFor scope env = pure cl) (hcell : ∀ y ∈ scope.names, y.2 ≠ .cell) (hkind : scope.kind = .function)
    (hnames : ∀ y ∈ scope.names, y.2 = .local → scope.names.lookup y.1 = some .local) (hx : scope.names.lookup x = some .local) (hxd : (x == ("__debug__" : Str)) = false) (hh : A.handled = none)
    (hs : ∀ x, foldedSetIterable iter env x = pure x)
    (hiter : ∀ (Q : Value → Shared → Prop), Q (.ref a) s → wpAny (model prog w) A (eval iter env) Q E s)
    (hl : s.heap.IsList a vs.toArray) (hi : IntsAre vs ns) (hsz : ns.length ≤ 100000) (F : Fr h₀ L s.heap m) (N : News h₀ L s.heap news)
    (htest : ∀ C oC n t s₃ m₃ (E' : Value → Shared → Prop), n ∈ ns → LCg.NsObj oC m₃ → m₃ x = some (.int n t) → Fr h₀ L s₃.heap m → News h₀ L s₃.heap ((C, oC) :: news) → s.heap.StaysIn s₃.heap →
      wpAny (model prog w) A (isTrue test (compEnvC scope cl C env) (eval test (compEnvC scope cl C env))) (fun ok s₄ => ok = p n ∧ Keeps s₃ s₄) E' s₃)
    (h : ∀ D h' tk us k, Fr h₀ L h' m → News h₀ L h' ((D, listOf (us : List Value).toArray k) :: news) → IntsAre us (ns.filter p) → s.heap.StaysIn h' → (∀ q ∈ news, q.1 ≠ D) → Q (.ref D) { s with heap := h', toks := tk }) :
    wpAny (model prog w) A (eval (.ListComp (.Name x px) [⟨.Name x px2, iter, [test], 0⟩] scope pos) env) Q E s := by
  refine wpAny_ListComp_free (liftP p) (fun v y => y = v) hclos hcell hkind hnames hx ?_ hs
  refine hiter _ (wpAny_pyIter_list hl ?_)
  obtain ⟨ol, hol, hol'⟩ := id hl
  have hax : a < s.heap.objs.size := Heap.lt_size hol
  have hlen : vs.toArray.size = ns.length := by simp [hi.length]
  have st : s.heap.StaysIn (s.heap.push { cls := .type "list_iterator", data := .fields #[.ref a, .int 0 0] }) := fun b o e => Heap.get?_push_of_some _ e
  have keepI : ∀ h', (∀ b o, b ∉ [s.heap.objs.size] → (s.heap.push { cls := .type "list_iterator", data := .fields #[.ref a, .int 0 0] }).get? b = some o → h'.get? b = some o) → s.heap.StaysIn h' :=
    fun h' k b o e => k b o (by simpa using Nat.ne_of_lt (Heap.lt_size e)) (st b o e)
  refine ⟨s.heap.objs.size, [s.heap.objs.size, a], [s.heap.objs.size], vs.toArray.size, _, _, rfl, Walks.list hh s.heap.objs.size a (Nat.ne_of_lt hax) vs.toArray, by rw [hlen]; exact Nat.le_trans hsz (by decide), ?_, ?_, ?_, ?_⟩
  · exact ⟨⟨_, Heap.get?_push_size _ rfl, rfl, rfl⟩, stays_list st hl⟩
  · intro b hb
    show b < (s.heap.push _).objs.size
    rw [Heap.size_push]
    rcases List.mem_cons.mp hb with rfl | hb
    · exact Nat.lt_succ_self _
    · rw [List.mem_singleton.mp hb]; exact Nat.lt_succ_of_lt hax
  · have item : ∀ (i : Nat) (v : Value), vs.toArray[i]? = some v → ∃ n t, v = .int n t ∧ n ∈ ns := fun i v hv => ints_mem hi v (by
      rw [List.getElem?_toArray] at hv
      exact List.mem_of_getElem? hv)
    constructor
    · intro C i v s₃ m₃ E' hC hv hn hm hk _
      obtain ⟨n, t, rfl, hmem⟩ := item i v hv
      obtain ⟨oC, eC, hoC⟩ := LCg.ns_obj hn
      have hC9 : (s.heap.push { cls := .type "list_iterator", data := .fields #[.ref a, .int 0 0] }).objs.size ≤ C := hC
      rw [Heap.size_push] at hC9
      have hC' : s.heap.get? C = none := Heap.get?_none_of_le (Nat.le_of_succ_le hC9)
      refine wpAny_tests_one (htest C oC n t s₃ m₃ E' hmem hoC hm (F.keeps (keepI _ hk)) (fun q hq => ?_) (keepI _ hk))
      rcases List.mem_cons.mp hq with rfl | hq
      · refine ⟨eC, fun e => ?_, ?_⟩
        · obtain ⟨oL, _, _, hL, _⟩ := F.ns
          have e' : C = L := e
          rw [← e', hC'] at hL; cases hL
        · cases q : h₀.get? C with
          | none => rfl
          | some o => rw [F.keep _ _ q] at hC'; cases hC'
      · exact ⟨keepI _ hk _ _ (N q hq).1, (N q hq).2⟩
    · intro C i v s₃ m₃ E' hC hv hp hn hm hk _
      exact wpAny_Name (wpAny_loadName_local (by simp [compEnvC, relabel, hkind]) (lookup_relabel_local hx) hn hm ⟨rfl, _, _, rfl, fun _ _ e => e⟩) hxd
  · intro D h' tk ys us hD hlD hpl hlen2 hP hF hk
    have e1 : us = vs := by
      refine List.ext_getElem? fun j => ?_
      by_cases hj : j < us.length
      · have h1 : us[j]? = some us[j] := List.getElem?_eq_getElem hj
        have h2 := hP j _ h1
        rw [List.getElem?_toArray] at h2
        rw [h1, h2]
      · rw [List.getElem?_eq_none (Nat.not_lt.mp hj), List.getElem?_eq_none (by rw [hlen2, List.size_toArray] at hj; omega)]
    subst e1
    have e2 := paired_eq hF
    obtain ⟨k, hgD⟩ := hpl
    have kk := keepI h' hk
    have hD' : s.heap.get? D = none := by
      cases q : s.heap.get? D with
      | none => rfl
      | some o => have := st _ _ q; rw [hD] at this; cases this
    refine h D h' tk (us.filter (liftP p)) k (F.keeps kk) (fun q hq => ?_) (ints_filter p hi) kk (fun q hq e => by have := (N q hq).1; rw [e, hD'] at this; cases this)
    rcases List.mem_cons.mp hq with rfl | hq
    · refine ⟨?_, ?_, ?_⟩
      · rw [hgD]; rw [← e2]
      · intro e
        obtain ⟨oL, _, _, hL, _⟩ := F.ns
        rw [← e, hD'] at hL; cases hL
      · cases q : h₀.get? D with
        | none => rfl
        | some o => rw [F.keep _ _ q] at hD'; cases hD'
    · exact ⟨kk _ _ (N q hq).1, (N q hq).2⟩
end
end Mine
end
end

section
local macro_rules
  | `(tactic| walk_at "eval ListComp") => `(tactic| refine Mine.Halt.out ?_)
  | `(tactic| walk_at "eval Dict cons cons") => `(tactic| refine Mine.Halt.out ?_)
  | `(tactic| walk_at "eval Dict") => `(tactic| refine Mine.Halt.out ?_)
  | `(tactic| walk_at "exec FunctionDef") => `(tactic| refine Mine.Halt.out ?_)

section
namespace Mine
noncomputable def grow : List Int → Tree
  | [] => .nil
  | x :: r => .node x (grow (r.filter (fun y => decide (y < x)))) (grow (r.filter (fun y => decide (x < y))))
termination_by l => l.length
decreasing_by all_goals (simp only [List.length_cons]; refine Nat.lt_succ_of_le ?_; simp; exact Nat.le_trans (List.length_filter_le _ _) (by simp))
theorem less_eq (x : Int) (r : List Int) : (x :: r).filter (fun y => decide (y < x)) = r.filter (fun y => decide (y < x)) := by
  rw [List.filter_cons_of_neg (by simp)]
theorem more_eq (x : Int) (r : List Int) : (x :: r).filter (fun y => decide (x < y)) = r.filter (fun y => decide (x < y)) := by
  rw [List.filter_cons_of_neg (by simp)]
theorem grown_pcK (c : Cx) : ∀ (k : Nat) (ns : List Int) (s : Shared) (v : Value), ns.length < k → k ≤ 1000 → IntsAt s.heap v ns → PC c 79 [v] (ns.length + 1) s (fun tl r => TreeIn tl r (grow ns)) := by
  intro k
  induction k with
  | zero => exact fun ns s v hk => absurd hk (Nat.not_lt_zero _)
  | succ k ih =>
    intro ns s v hk hk2 hR
    obtain ⟨a, vs, rfl, hl, hi⟩ := hR
    unfold PC Cx.At
    k_fill
    intro A Q E hA hd hu H hret
    obtain ⟨hdl, dp, fr, gd, un⟩ := A
    cases hA
    dsimp only at hd hu
    (k_dflt (refine' enter_cells ?H ?room ?k6 ?k7 ?k9 ?kB ?kD ?_ ?c2 ?c3 ?c4; (case H => assumption); (case k6 => k_is); (case k7 => k_is); (case k9 => exact BindsTo.of_eq rfl); (case kB => exact rfl); (case kD => decide +kernel); (case c2 => exact rfl); (case c3 => exact rfl); (case c4 => exact rfl); (case room => (dsimp only; omega)); k_whole))
    intro g L' h1 tk cells kG F1 N1 Y1 X1 T1
    k_cells Y1
    (try dsimp only); (try k_fold)
    have hlg := stays_list kG hl
    k_steps
    · (rename (decide (ns = []) = true) => h0); (rename Fr _ _ _ _ => F2); (rename News _ _ _ _ => N2)
      obtain rfl : ns = [] := of_decide_eq_true h0
      exact hret _ [] _ _ (fun b o e => Fr.keep F2 _ _ (kG _ _ e)) (fun _ h => nomatch h) (by unfold grow; exact .nil)
    · (rename (decide (ns = []) = false) => h0); (rename Fr _ _ _ _ => F2); (rename News _ _ _ _ => N2)
      cases hi with
      | nil => exact absurd h0 (by simp)
      | cons x tx hi =>
      rename_i vs1 ns1
      dsimp only [List.length_cons] at hk hd hu
      have hi2 := IntsAre.cons x tx hi
      k_steps
      refine ⟨?_⟩
      (rename Fr _ _ _ _ => F3); (rename News _ _ _ _ => N3); (rename Obj => o9)
      have hlt := List.length_filter_le (fun y => decide (y < x)) ns1
      have hgt := List.length_filter_le (fun y => decide (x < y)) ns1
      refine comp_filter (fun y => decide (y < x)) (cl := [(Str.ofString "order", L' + 1)]) (by with_unfolding_all rfl) (by decide) rfl (by decide) rfl (by decide) rfl (fun _ => rfl) ?iter1 (stays_list F3.keep hlg) hi2 (by simp only [List.length_cons]; omega) F3 N3 ?test1 ?fin1
      case iter1 =>
        intro Q hQ
        exact nameX_C N3 (o := _) (c := L' + 1) rfl (by k_mem) (by assumption) hQ
      case test1 =>
        intro C oC n t s3 m4 E4 hn hoC hm4 F4 N4 st4
        have hl4 := stays_list F4.keep hlg
        k_steps
        exact ⟨_, _, rfl, fun _ _ e => e⟩
      case fin1 =>
      intro D h5 tk5 us5 k5 F5 N5 i5 st5 ne5
      rw [less_eq] at i5
      clear F3 N3
      k_steps
      refine PC.use (ih _ _ _ (by omega) (by omega) (ints_here N5 (.head _) i5)) F5 N5 X1 T1 rfl (by dsimp [Around.deeper]; omega) (by dsimp [Around.deeper]; omega) ?_
      intro r4 tl4 h4 tk4 F4 N4 k4 p4
      k_steps
      refine ⟨?_⟩
      refine comp_filter (fun y => decide (x < y)) (cl := [(Str.ofString "order", L' + 1)]) (by with_unfolding_all rfl) (by decide) rfl (by decide) rfl (by decide) rfl (fun _ => rfl) ?iter2 (stays_list F4.keep hlg) hi2 (by simp only [List.length_cons]; omega) F4 N4 ?test2 ?fin2
      case iter2 =>
        intro Q hQ
        exact nameX_C N4 (o := _) (c := L' + 1) rfl (by k_mem) (by assumption) hQ
      case test2 =>
        intro C oC n t s3 m4 E4 hn hoC hm4 F6 N6 st6
        have hl6 := stays_list F6.keep hlg
        k_steps
        exact ⟨_, _, rfl, fun _ _ e => e⟩
      case fin2 =>
      intro D2 h7 tk7 us7 k7 F7' N7' i7 st7 ne7
      rw [more_eq] at i7
      clear F4 N4
      k_steps
      refine PC.use (ih _ _ _ (by omega) (by omega) (ints_here N7' (.head _) i7)) F7' N7' X1 T1 rfl (by dsimp [Around.deeper]; omega) (by dsimp [Around.deeper]; omega) ?_
      intro r6 tl6 h6 tk6 F6 N6 k6 p6
      k_steps
      (rename Fr _ _ _ _ => F7); (rename News _ _ _ _ => N7)
      refine hret _ _ _ _ (fun b o e => Fr.keep F7 _ _ (kG _ _ e)) (fresh_of_news F7 N7 kG) ?_
      rw [grow]
      refine .node (.head _) (p4.mono ?_) (p6.mono ?_)
      · intro p hp; simp [hp]
      · intro p hp; simp [hp]
theorem grown_pc (c : Cx) (ns : List Int) (s : Shared) (v : Value) (hn : ns.length < 1000) (h : IntsAt s.heap v ns) : PC c 79 [v] (ns.length + 1) s (fun tl r => TreeIn tl r (grow ns)) :=
  grown_pcK c 1000 ns s v hn (Nat.le_refl _) h
end Mine
end

section
open PyProof.V
namespace Mine
open PyProof.V in
inductive DictIn (c : Cx) (news : List (Addr × Obj)) : Value → List (PyData × PyData) → Prop where
  | mk {d : Addr} {o : Obj} {kvs : List (Int × Value)} {D : List (PyData × PyData)} : (d, o) ∈ news → (d == sysModules) = false → o.IsDictOf (PySem.intKind Challenge.rw_gm0006_01.row.prog c.w) kvs → FlatPairs PyData.int kvs D → DictIn c news (.ref d) D
theorem DictIn.at {c : Cx} {news : List (Addr × Obj)} {h₀ h : Heap} {L : Addr} {v : Value} {D : List (PyData × PyData)} (x : DictIn c news v D) (N : News h₀ L h news) : ∃ d, v = .ref d ∧ IntTab Challenge.rw_gm0006_01.row.prog c.w h d D ∧ ∃ o, (d, o) ∈ news := by
  cases x with
  | mk hm lo hd hf => exact ⟨_, rfl, TabAt.ofNews N hm lo hd hf, _, hm⟩
noncomputable def Tree.aboveD : Tree → PyData → List (PyData × PyData)
  | .nil, _ => []
  | .node i l r, o => ktMergeD (ktMergeD [(.int i, o)] (l.aboveD (.int i))) (r.aboveD (.int i))
theorem ktMergeD_length : ∀ (D₂ D : List (PyData × PyData)), (ktMergeD D D₂).length ≤ D.length + D₂.length := by
  intro D₂
  induction D₂ with
  | nil => intro D; exact Nat.le_refl _
  | cons p r ih =>
    intro D
    have h1 := ih (putD p.1 p.2 D)
    have h2 := putD_length_le p.1 p.2 D
    show (ktMergeD (putD p.1 p.2 D) r).length ≤ _
    simp only [List.length_cons]; omega
theorem aboveD_length : ∀ (t : Tree) (o : PyData), (t.aboveD o).length ≤ t.size := by
  intro t
  induction t with
  | nil => intro o; exact Nat.le_refl _
  | node i l r ihl ihr =>
    intro o
    have h1 := ktMergeD_length (r.aboveD (.int i)) (ktMergeD [(.int i, o)] (l.aboveD (.int i)))
    have h2 := ktMergeD_length (l.aboveD (.int i)) [(.int i, o)]
    have h3 := ihl (.int i)
    have h4 := ihr (.int i)
    simp only [Tree.aboveD, Tree.size, List.length_singleton] at *; omega
theorem above_pc (c : Cx) : ∀ (t : Tree) (s : Shared) (v u : Value) (o : PyData), t.size ≤ 1000 → TreeAt s.heap v t → PyProof.V.Flat u o → PC c 107 [v, u] (t.size + 1) s (fun tl r => DictIn c tl r (t.aboveD o)) := by
  intro t
  induction t with
  | nil =>
    intro s v u o hsz hR hfl
    cases hR
    unfold PC Cx.At
    k_fill
    intro A Q E hA hd hu H hret
    obtain ⟨hdl, dp, fr, gd, un⟩ := A
    cases hA
    dsimp only [Tree.size] at hd hu hsz
    (k_dflt (refine' enter_plain ?H ?room ?k6 ?k7 ?k9 ?kB ?_ ?c2 ?c3 ?c4 ?c5; (case H => assumption); (case k6 => k_is); (case k7 => k_is); (case k9 => exact BindsTo.of_eq rfl); (case c5 => decide); (case kB => exact locs rfl); (case c2 => exact rfl); (case c3 => exact rfl); (case c4 => exact rfl); (case room => (dsimp only; omega)); k_whole))
    intro g L' h1 kG F1 N1 X1 T1
    (try dsimp only); (try k_fold)
    k_steps
    (rename Fr _ _ _ _ => F2); (rename News _ _ _ _ => N2); (rename Obj.IsDictOf (PySem.intKind _ _) _ _ => d2); (rename PyProof.V.FlatPairs PyData.int _ _ => f2); (rename (_ == sysModules) = false => lo2)
    exact hret _ _ _ _ (fun b o e => Fr.keep F2 _ _ (kG _ _ e)) (fresh_of_news F2 N2 kG) (.mk (.head _) lo2 d2 f2)
  | node i l r ihl ihr =>
    intro s v u o hsz hR hfl
    cases hR with
    | node ht ht1 ht2 =>
    unfold PC Cx.At
    k_fill
    intro A Q E hA hd hu H hret
    obtain ⟨hdl, dp, fr, gd, un⟩ := A
    cases hA
    dsimp only [Tree.size] at hd hu hsz
    (k_dflt (refine' enter_plain ?H ?room ?k6 ?k7 ?k9 ?kB ?_ ?c2 ?c3 ?c4 ?c5; (case H => assumption); (case k6 => k_is); (case k7 => k_is); (case k9 => exact BindsTo.of_eq rfl); (case c5 => decide); (case kB => exact locs rfl); (case c2 => exact rfl); (case c3 => exact rfl); (case c4 => exact rfl); (case room => (dsimp only; omega)); k_whole))
    intro g L' h1 kG F1 N1 X1 T1
    (try dsimp only); (try k_fold)
    have htg := ht.keeps kG
    k_steps
    refine ⟨?_⟩
    refine kdn_eval (knd := PySem.intKind Challenge.rw_gm0006_01.row.prog c.w) F1 N1 T1.nolimit rfl rfl (List.cons_ne_nil _ _) (by decide) ?_
    intro d2 h2 o2 F2 N2 l2 lo2 hd2
    have f3 : PyProof.V.FlatPairs PyData.int _ _ := PyProof.V.FlatPairs.cons (k := i) (enc := PyData.int) hfl .nil
    k_steps
    (rename Fr _ _ _ _ => F3); (rename News _ _ _ _ => N3); (rename Obj.IsDictOf _ _ _ => hd3)
    refine PC.use2 (ihl _ _ _ (.int i) (by omega) (ht1.now kG F3) (.int _ _)) F3 N3 X1 T1 rfl (by dsimp [Around.deeper]; omega) (by dsimp [Around.deeper]; omega) ?_
    intro r4 tl4 h4 tk4 F4 N4 M4 k4 a4 p4
    obtain ⟨b4, rfl, T4, ob4, hm4⟩ := p4.at M4
    have q4 := aboveD_length l (.int i)
    have q5 := aboveD_length r (.int i)
    k_steps
    refine kt_update_K (D := [(PyData.int i, o)]) same_int F4 N4 (UpdF.head (List.forall_mem_nil _)) hd3 f3 T4 (a4 _ (.head _) _ hm4) ?_ (Nat.le_trans (m := 1 + l.size) (by simp only [List.length_singleton]; omega) (Nat.le_trans (m := 2000) (by omega) (by decide)))
    intro h5 o5 kvs5 F5 N5 hd5 f5
    (try dsimp only at N5)
    clear F4 N4 F3 N3 f3 hd3
    k_steps
    refine PC.use2 (ihr _ _ _ (.int i) (by omega) (ht2.now kG F5) (.int _ _)) F5 N5 X1 T1 rfl (by dsimp [Around.deeper]; omega) (by dsimp [Around.deeper]; omega) ?_
    intro r6 tl6 h6 tk6 F6 N6 M6 k6 a6 p6
    obtain ⟨b6, rfl, T6, ob6, hm6⟩ := p6.at M6
    have q6 := ktMergeD_length (l.aboveD (.int i)) [(.int i, o)]
    simp only [List.length_singleton] at q6
    k_steps
    refine kt_update_K (D := ktMergeD [(PyData.int i, o)] (l.aboveD (.int i))) (D₂ := r.aboveD (.int i)) same_int F6 N6 (UpdF.head (d := d2) (o := o5) (List.forall_mem_nil _)) hd5 f5 T6 (a6 _ (.head _) _ hm6) ?_ (Nat.le_trans (m := 2000) (by omega) (by decide))
    intro h7 o7 kvs7 F7 N7 hd7 f7
    (try dsimp only at N7)
    k_steps
    exact hret _ _ _ _ (fun b o e => Fr.keep F7 _ _ (kG _ _ e)) (fresh_of_news F7 N7 kG) (.mk (.head _) lo2 hd7 f7)
end Mine
end

section
namespace Mine
-- a goal at which the walk shall stand still
noncomputable def Hold (P : Prop) : Prop := P
theorem Hold.of {P : Prop} (h : Hold P) : P := h
noncomputable def TurnEnd (Q : Flow → Shared → Prop) (R : Shared → Prop) (f : Flow) (s : Shared) : Prop :=
  match f with
  | .next => Hold (R s)
  | .cont => Hold (R s)
  | .brk => Q .next s
  | .ret v => Q (.ret v) s
theorem look_skip {m : Str → Option Value} {y z : Str} {v w : Option Value} (h : (y == z) = false) (e : m y = w) : (if y = z then v else m y) = w := by
  rw [if_neg (by simpa using h)]; exact e
section
variable {prog : Program} {w : World} {A : Around} {E : Value → Shared → Prop} {s : Shared} {env : Env} {test : PySem.Expr} {body : List Stmt} {Q : Flow → Shared → Prop} {pos : Pos}
theorem my_while (hE : ∀ e s, ¬ E e s) (I : Nat → Shared → Prop)
    (turn : ∀ n s, I n s → wpAny (model prog w) A (isTrue test env (eval test env)) (fun b s₂ => if b = true then wpAny (model prog w) A (execs body env) (TurnEnd Q (fun s' => ∃ k, k < n ∧ I k s')) E s₂ else Q .next s₂) E s)
    (n : Nat) (h : I n s) : wpAny (model prog w) A (exec (.While test body [] pos) env) Q E s := by
  have pass : PassesOwn (model prog w) A env E := fun e s' x => absurd x (hE e s')
  have all : ∀ n, ∀ k, k < n → ∀ s, I k s → ∀ j, WhlRest prog w A E env test body [] Q j s := by
    intro n
    induction n with
    | zero => intro k hk; exact absurd hk (Nat.not_lt_zero _)
    | succ n ih =>
      intro k hk s hI j
      refine whl_turn (k := j) pass (wpAny_mono (turn k s hI) (fun b s₂ h₂ => ?_) fun _ _ x => x)
      cases b with
      | false => exact WhlIf.no rfl (wpAny_pure (by simpa using h₂))
      | true =>
        refine WhlIf.yes rfl (wpAny_mono (by simpa using h₂) (fun f s₃ h₃ => ?_) fun _ _ x => x)
        cases f with
        | next => obtain ⟨k', hk', hI'⟩ := h₃; exact ih k' (by omega) _ hI' j
        | cont => obtain ⟨k', hk', hI'⟩ := h₃; exact ih k' (by omega) _ hI' j
        | brk => exact h₃
        | ret v => exact h₃
  exact whl_start 0 (all (n + 1) n (Nat.lt_succ_self _) s h 0)
end
end Mine
end

section
namespace Mine
-- two lists, item by item
inductive AllAre {α β : Type} (R : α → β → Prop) : List α → List β → Prop where
  | nil : AllAre R [] []
  | cons {a : α} {b : β} {l : List α} {k : List β} : R a b → AllAre R l k → AllAre R (a :: l) (b :: k)
theorem AllAre.imp {α β : Type} {R S : α → β → Prop} (h : ∀ a b, R a b → S a b) {l : List α} {k : List β} (x : AllAre R l k) : AllAre S l k := by
  induction x with
  | nil => exact .nil
  | cons a _ ih => exact .cons (h _ _ a) ih
theorem AllAre.append {α β : Type} {R : α → β → Prop} {l l' : List α} {k k' : List β} (x : AllAre R l k) (y : AllAre R l' k') : AllAre R (l ++ l') (k ++ k') := by
  induction x with
  | nil => exact y
  | cons a _ ih => exact .cons a ih
theorem AllAre.length {α β : Type} {R : α → β → Prop} {l : List α} {k : List β} (x : AllAre R l k) : l.length = k.length := by
  induction x with
  | nil => rfl
  | cons _ _ ih => simp [ih]
theorem AllAre.get {α β : Type} {R : α → β → Prop} {l : List α} {k : List β} (x : AllAre R l k) : ∀ (i : Nat) (a : α), l[i]? = some a → ∃ b, k[i]? = some b ∧ R a b := by
  induction x with
  | nil => intro i a e; cases i <;> cases e
  | cons r _ ih =>
    intro i a e
    cases i with
    | zero => cases e; exact ⟨_, rfl, r⟩
    | succ i => exact ih i a e

theorem none_of {G H : Heap} {a : Addr} (k : G.StaysIn H) (e : H.get? a = none) : G.get? a = none := by
  cases q : G.get? a with
  | none => rfl
  | some o => rw [k _ _ q] at e; cases e
-- a plain list of ints that was not there in H0, and is not D
noncomputable def Elem (H0 : Heap) (D : Addr) (h : Heap) (v : Value) (ms : List Int) : Prop :=
  ∃ a vs n, v = .ref a ∧ a ≠ D ∧ H0.get? a = none ∧ h.get? a = some (listOf (vs : List Value).toArray n) ∧ IntsAre vs ms
-- plain lists other than D stay
noncomputable def LK (D : Addr) (h h' : Heap) : Prop := ∀ b its n, b ≠ D → h.get? b = some (listOf its n) → h'.get? b = some (listOf its n)
theorem LK.refl {D : Addr} {h : Heap} : LK D h h := fun _ _ _ _ e => e
theorem LK.trans {D : Addr} {h h' h'' : Heap} (x : LK D h h') (y : LK D h' h'') : LK D h h'' := fun b its n hb e => y b its n hb (x b its n hb e)
theorem LK.of_stays {D : Addr} {h h' : Heap} (k : h.StaysIn h') : LK D h h' := fun _ _ _ _ e => k _ _ e
theorem LK.of_but {D z : Addr} {h h' : Heap} (k : ∀ b o, b ≠ z → h.get? b = some o → h'.get? b = some o) (hz : ∀ its n, h.get? z ≠ some (listOf its n)) : LK D h h' :=
  fun b its n _ e => k b _ (fun q => hz its n (q ▸ e)) e
theorem LK.of_butD {D : Addr} {h h' : Heap} (k : ∀ b o, b ≠ D → h.get? b = some o → h'.get? b = some o) : LK D h h' := fun b _ _ hb e => k b _ hb e
theorem Elem.keep {H0 h h' : Heap} {D : Addr} {v : Value} {ms : List Int} (x : Elem H0 D h v ms) (k : LK D h h') : Elem H0 D h' v ms := by
  obtain ⟨a, vs, n, e, ha, h0, hg, hi⟩ := x
  exact ⟨a, vs, n, e, ha, h0, k _ _ _ ha hg, hi⟩
-- a new list of new lists of ints
noncomputable def NewLists (H0 h : Heap) (v : Value) (yss : List (List Int)) : Prop :=
  ∃ d us n, v = .ref d ∧ H0.get? d = none ∧ h.get? d = some (listOf (us : List Value).toArray n) ∧ AllAre (Elem H0 d h) us yss
theorem NewLists.after {G H0 h : Heap} {v : Value} {yss : List (List Int)} (x : NewLists H0 h v yss) (k : G.StaysIn H0) : NewLists G h v yss := by
  have no : ∀ a, H0.get? a = none → G.get? a = none := fun a e => by
    cases q : G.get? a with
    | none => rfl
    | some o => rw [k _ _ q] at e; cases e
  obtain ⟨d, us, n, e, h0, hg, ha⟩ := x
  exact ⟨d, us, n, e, no _ h0, hg, ha.imp fun _ _ ⟨a, vs, n, e, h1, h2, h3, h4⟩ => ⟨a, vs, n, e, h1, no _ h2, h3, h4⟩⟩

theorem not_list_iter {h : Heap} {I l : Addr} {i : Nat} (x : h.IsListIter I l i) : ∀ its n, h.get? I ≠ some (listOf its n) := fun its n e => by
  obtain ⟨o, ho, hc, hd⟩ := x
  rw [ho] at e; cases e
  have hc' : Value.type "list" = Value.type "list_iterator" := hc
  exact absurd (Value.type.inj hc') (by decide)
theorem not_list_ns {h : Heap} {C : Addr} {m : Str → Option Value} (x : h.Ns C m) : ∀ its n, h.get? C ≠ some (listOf its n) := fun its n e => by
  obtain ⟨o, es, ep, ho, hd, _⟩ := x
  rw [ho] at e; cases e; cases hd
theorem not_list_cell {h : Heap} {C : Addr} {v : Option Value} (x : h.IsCell C v) : ∀ its n, h.get? C ≠ some (listOf its n) := fun its n e => by
  obtain ⟨o, ho, hd⟩ := x
  rw [ho] at e; cases e; cases hd

section
variable {prog : Program} {w : World} {A : Around} {E : Value → Shared → Prop} {s : Shared} {env : Env}
theorem newEnv_cells {scope : Scope} {globals : Addr} {closure : List (Str × Addr)} {qual : Str} {func : Option Addr} {code : Value} {outer : Env} {builtins : Addr} {Q : Env → Shared → Prop}
    (hQ : Q (newEnv scope s.heap.objs.size globals (cellsFrom (s.heap.objs.size + 1) scope.names closure) qual func code (some outer) builtins)
      { s with heap := pushCells (s.heap.push { cls := .type "dict", data := .dict #[] }) scope.names }) :
    wpAny (model prog w) A (newFunctionEnv scope globals closure [] qual func code (some outer) builtins) Q E s := by
  simp only [newFunctionEnv, Option.isSome_some, if_true]
  refine wpAny_bind (wpAny_alloc ?_)
  refine wpAny_bind (wpAny_layCells _ (fun name kind cells => by cases hkc : kind == NameKind.cell <;> simp) _ _ _ _ ?_)
  rw [show ({ s with heap := s.heap.push { cls := .type "dict", data := .dict #[] } } : Shared).heap.objs.size = s.heap.objs.size + 1 from Heap.size_push ..]
  exact wpAny_pure hQ

variable {elt i1 i2 : PySem.Expr} {x y : Str} {px py pos : Pos} {scope : Scope} {R : Result → Shared → Prop}
abbrev cmp2 (elt i1 i2 : PySem.Expr) (x y : Str) (px py pos : Pos) (scope : Scope) : PySem.Expr := .ListComp elt [⟨.Name x px, i1, [], 0⟩, ⟨.Name y py, i2, [], 0⟩] scope pos
theorem turn1 (it acc : Value) (ce : Env) : compTurn (cmp2 elt i1 i2 x y px py pos scope) 1 it acc ce = (do
      standAt i2.pos
      match ← pyNext it with
      | none => pure (.done .next)
      | some v =>
        letOwnedTupleGo (.Name y py) it v
        assign (.Name y py) ce v
        (do let _ ← call (.builtin "list.append") [acc, ← eval elt ce])
        again (.compLoop (cmp2 elt i1 i2 x y px py pos scope) 1 it acc ce)) := by rfl
theorem turn0 (it acc : Value) (ce : Env) : compTurn (cmp2 elt i1 i2 x y px py pos scope) 0 it acc ce = (do
      standAt i1.pos
      match ← pyNext it with
      | none => pure (.done .next)
      | some v =>
        letOwnedTupleGo (.Name x px) it v
        assign (.Name x px) ce v
        let x2 ← eval i2 ce
        standAt i2.pos
        let x2 ← foldedSetIterable i2 ce x2
        let _ ← runOwn (.compStart (cmp2 elt i1 i2 x y px py pos scope) 1 (← holding [x2] (pyIter x2)) acc ce) ce
        again (.compLoop (cmp2 elt i1 i2 x y px py pos scope) 0 it acc ce)) := by rfl
theorem start1 {it acc : Value} {ce : Env} {R : Result → Shared → Prop}
    (h0 : codeAny (model prog w) A (.compLoop (cmp2 elt i1 i2 x y px py pos scope) 1 it acc ce) R s)
    (h : wpAny (model prog w) A (pyIter it) (fun it' s' => codeAny (model prog w) A (.compLoop (cmp2 elt i1 i2 x y px py pos scope) 1 it' acc ce) R s') (notedBy (model prog w) A ce fun x s' => R (.error x) s') s) :
    codeAny (model prog w) A (.compStart (cmp2 elt i1 i2 x y px py pos scope) 1 it acc ce) R s := by
  refine codeAny_of_tree ?_
  show wpAny _ _ ((compStart (cmp2 elt i1 i2 x y px py pos scope) 1 it acc ce).onRaise (fun x => do noteFrame x ce; standAt theWindowsPlace)) _ _ s
  refine wpAny_notedAt ?_
  unfold compStart
  show wpAny _ _ (ask >>= _) _ _ s
  refine wpAny_bind (wpAny_askSetting (wpAny_ite ?_))
  split
  · first
      | exact wpAny_bind (wpAny_pure (wpAny_pure (And.intro rfl h0)))
      | exact wpAny_pure (And.intro rfl h0)
  · first
      | exact wpAny_bind (wpAny_rule (wpAny_bind (wpAny_standAt (wpAny_bind (wpAny_mono h (fun it' s' h' => wpAny_pure (And.intro rfl h')) fun _ _ x => x)))))
      | (refine wpAny_bind (wpAny_rule ?_); show wpAny _ _ (standAt i2.pos >>= _) _ _ s; exact wpAny_bind (wpAny_standAt (wpAny_bind (wpAny_mono h (fun it' s' h' => wpAny_pure (And.intro rfl h')) fun _ _ x => x))))

-- the inner loop: it appends what the element makes of each item
theorem inner_loop {ce : Env} {H0 : Heap} {I I2 D C X b : Addr} {us : List Value} {mss zss : List (List Int)} {g : List Int → List Int} {l0 : Addr} {i0 : Nat} {vx : Value}
    (hh : A.handled = none) (hloc : ce.locals = C) (hkd : ce.scope.kind = .function) (hy : ce.kindOf y = some .local)
    (hbD : b ≠ D) (hCD : C ≠ D) (hI2D : I2 ≠ D) (hID : I ≠ D) (hXD : X ≠ D) (hXC : X ≠ C) (hIC : I ≠ C) (hI2I : I2 ≠ I) (hI2C : I2 ≠ C) (hI2X : I2 ≠ X)
    (hD0 : H0.get? D = none) (hC0 : H0.get? C = none) (hI20 : H0.get? I2 = none) (hsz : zss.length + mss.length ≤ 100000)
    (helt : ∀ (s₁ : Shared) (m : Str → Option Value) (u : Value) (ms : List Int) (E' : Value → Shared → Prop), H0.StaysIn s₁.heap → s₁.heap.Ns C m → m y = some u → s₁.heap.IsCell X (some vx) → Elem H0 D s₁.heap u ms → ms ∈ mss →
      wpAny (model prog w) A (eval elt ce) (fun v s₂ => ∃ h' tk', s₂ = { s₁ with heap := h', toks := tk' } ∧ s₁.heap.StaysIn h' ∧ (∃ a vs n, v = .ref a ∧ s₁.heap.get? a = none ∧ h'.get? a = some (listOf (vs : List Value).toArray n) ∧ IntsAre vs (g ms))) E' s₁)
    (ys : List Value) (k0 : Nat) (m0 : Str → Option Value) (hst : H0.StaysIn s.heap) (hI : s.heap.IsListIter I l0 i0) (hI2 : s.heap.IsListIter I2 b 0) (hD : s.heap.get? D = some (listOf ys.toArray k0)) (hC : s.heap.Ns C m0)
    (hX : s.heap.IsCell X (some vx)) (nb : Nat) (hb : s.heap.get? b = some (listOf us.toArray nb)) (hus : AllAre (Elem H0 D s.heap) us mss) (hys : AllAre (Elem H0 D s.heap) ys zss)
    (hR : ∀ h' tk' ys' k m, H0.StaysIn h' → h'.IsListIter I l0 i0 → h'.get? D = some (listOf (ys' : List Value).toArray k) → h'.Ns C m → h'.IsCell X (some vx) → AllAre (Elem H0 D h') ys' (zss ++ mss.map g) → R (.ok .next) { s with heap := h', toks := tk' }) :
    codeAny (model prog w) A (.compLoop (cmp2 elt i1 i2 x y px py pos scope) 1 (.ref I2) (.ref D) ce) R s := by
  refine codeAny_loop rfl (fun k s' => ∃ h' tk' ys' kd m, ∃ j : Nat, s' = { s with heap := h', toks := tk' } ∧ j ≤ us.length ∧ k = us.length - j ∧ H0.StaysIn h' ∧ h'.IsListIter I l0 i0 ∧ h'.IsListIter I2 b j ∧ h'.get? D = some (listOf (ys' : List Value).toArray kd) ∧
      h'.Ns C m ∧ h'.IsCell X (some vx) ∧ h'.get? b = some (listOf us.toArray nb) ∧ AllAre (Elem H0 D h') us mss ∧ AllAre (Elem H0 D h') ys' (zss ++ (mss.take j).map g)) ?_ us.length
    ⟨s.heap, s.toks, ys, k0, m0, 0, rfl, Nat.zero_le _, rfl, hst, hI, hI2, hD, hC, hX, hb, hus, by simpa using hys⟩
  rintro k s' ⟨h, tk, ys', kd, m, j, rfl, hj, rfl, st, iI, iI2, iD, iC, iX, ib, ius, iys⟩
  show wpAny _ A ((compTurn (cmp2 elt i1 i2 x y px py pos scope) 1 (.ref I2) (.ref D) ce).onRaise (fun x => do noteFrame x ce; theTreesLotGoes x)) _ _ _
  refine wpAny_noted ?_
  rw [turn1]
  have hl : h.IsList b us.toArray := ⟨_, ib, rfl, _, rfl⟩
  have hbI2 : b ≠ I2 := fun q => not_list_iter iI2 _ _ (q ▸ ib)
  refine wpAny_bind (wpAny_standAt (wpAny_bind ?_))
  cases hv : us[j]? with
  | none =>
    have hjn : us.length ≤ j := List.getElem?_eq_none_iff.mp hv
    refine wpAny_pyNext_list_end hh iI2 hl (by rw [List.getElem?_toArray]; exact hv) fun h₁ he => ?_
    have lk : LK D h h₁ := LK.of_but (fun b o hb e => he b o hb e) (not_list_iter iI2)
    refine wpAny_pure ?_
    have hm : mss.take j = mss := List.take_of_length_le (by rw [← ius.length]; exact hjn)
    rw [hm] at iys
    exact hR h₁ tk ys' kd m (fun b o e => he b o (fun q => by rw [q, hI20] at e; cases e) (st b o e)) (iI.extBut he (Ne.symm hI2I)) (he D _ (Ne.symm hI2D) iD) (iC.extBut he (Ne.symm hI2C))
      (let ⟨o, ho, hd⟩ := iX; ⟨o, he X o (Ne.symm hI2X) ho, hd⟩) (iys.imp fun _ _ q => q.keep lk)
  | some u =>
    have hlt : j < us.length := (List.getElem?_eq_some_iff.mp hv).1
    obtain ⟨ms, hms, hu⟩ := ius.get j u hv
    refine wpAny_pyNext_list_item iI2 hl (x := u) (by rw [List.getElem?_toArray]; exact hv) fun h₁ iI2₁ hs₁ => ?_
    have he₁ := hs₁.extBut
    have lk₁ : LK D h h₁ := LK.of_but (fun b o hb e => he₁ b o hb e) (not_list_iter iI2)
    refine wpAny_bind (wpAny_of_eq (show letOwnedTupleGo (.Name y py) (.ref I2) u = pure () from rfl) ?_)
    have iC₁ := iC.extBut he₁ (Ne.symm hI2C)
    refine wpAny_bind (wpAny_assign_Name (wpAny_storeName_local hy (hloc ▸ iC₁) (fun h₂ iC₂ hs₂ => ?_) (by rw [hkd]; rfl)))
    rw [hloc] at iC₂ hs₂
    have he₂ := hs₂.extBut
    have lk₂ : LK D h₁ h₂ := LK.of_but (fun b o hb e => he₂ b o hb e) (not_list_ns iC₁)
    have st₂ : H0.StaysIn h₂ := fun b o e => he₂ b o (fun q => by rw [q, hC0] at e; cases e) (he₁ b o (fun q => by rw [q, hI20] at e; cases e) (st b o e))
    have iX₂ : h₂.IsCell X (some vx) := let ⟨o, ho, hd⟩ := iX; ⟨o, he₂ X o hXC (he₁ X o (Ne.symm hI2X) ho), hd⟩
    refine wpAny_bind (wpAny_bind (wpAny_mono (helt _ _ u ms _ st₂ iC₂ (by simp) iX₂ (hu.keep (lk₁.trans lk₂)) (List.mem_of_getElem? hms)) (fun v s₃ h₃ => ?_) fun _ _ e => e))
    obtain ⟨h₃, tk₃, rfl, k₃, a, ws, n, rfl, ha0, hag, hai⟩ := h₃
    have lk₃ : LK D h₂ h₃ := LK.of_stays k₃
    have iD₃ : h₃.get? D = some (listOf ys'.toArray kd) := k₃ _ _ (he₂ _ _ (Ne.symm hCD) (he₁ _ _ (Ne.symm hI2D) iD))
    have haD : a ≠ D := fun q => by
      have := he₂ _ _ (Ne.symm hCD) (he₁ _ _ (Ne.symm hI2D) iD)
      rw [← q] at this
      have ha0' : h₂.get? a = none := ha0
      rw [ha0'] at this; cases this
    have haH : H0.get? a = none := by
      cases q : H0.get? a with
      | none => rfl
      | some o => have ha0' : h₂.get? a = none := ha0
                  have := st₂ _ _ q; rw [ha0'] at this; cases this
    have hlen : ys'.length ≤ 100000 := by
      have h1 := iys.length
      have h2 : (mss.take j).length ≤ mss.length := List.length_take_le' _ _
      simp only [List.length_append, List.length_map] at h1
      omega
    refine wpAny_bind (append_at (hsz := by rw [List.size_toArray]; exact Nat.le_trans hlen (by decide)) iD₃ fun h₄ hs₄ hD₄ => ?_)
    have he₄ := hs₄.extBut
    have lk₄ : LK D h₃ h₄ := LK.of_butD fun b o hb e => he₄ b o hb e
    have lk : LK D h h₄ := (lk₁.trans lk₂).trans (lk₃.trans lk₄)
    refine wpAny_pure (wpAny_pure ⟨rfl, us.length - (j + 1), by omega, h₄, tk₃, ys' ++ [.ref a], kd + 1, _, j + 1, rfl, hlt, rfl,
      fun b o e => he₄ b o (fun q => by rw [q, hD0] at e; cases e) (k₃ _ _ (st₂ b o e)), ?_, ?_, ?_, (iC₂.keeps k₃).extBut he₄ hCD, ?_, ?_, ius.imp fun _ _ q => q.keep lk, ?_⟩)
    · exact (((iI.extBut he₁ (Ne.symm hI2I)).extBut he₂ hIC).at fun o e => k₃ _ _ e).extBut he₄ hID
    · exact ((iI2₁.extBut he₂ hI2C).at fun o e => k₃ _ _ e).extBut he₄ hI2D
    · rw [hD₄]; simp [W.listOf]
    · obtain ⟨o, ho, hd⟩ := iX₂
      exact ⟨o, he₄ X o hXD (k₃ _ _ ho), hd⟩
    · exact lk b _ _ hbD ib
    · rw [List.take_add_one, hms, List.map_append, ← List.append_assoc]
      exact (iys.imp fun _ _ q => q.keep lk).append (.cons ⟨a, ws, n, rfl, haD, haH, he₄ _ _ haD hag, hai⟩ .nil)

-- the outer loop
theorem outer_loop {ce : Env} {H0 : Heap} {I D C X a : Addr} {vs : List Value} {ns : List Int} {f : Int → List (List Int)} {g : Int → List Int → List Int}
    (hh : A.handled = none) (hloc : ce.locals = C) (hkd : ce.scope.kind = .function) (hx : ce.kindOf x = some .cell) (hxc : ce.cells.lookup x = some X) (hy : ce.kindOf y = some .local)
    (hfold : ∀ v, foldedSetIterable i2 ce v = pure v)
    (hCD : C ≠ D) (hID : I ≠ D) (hXD : X ≠ D) (hXC : X ≠ C) (hIC : I ≠ C) (hIX : I ≠ X)
    (hD0 : H0.get? D = none) (hC0 : H0.get? C = none) (hI0 : H0.get? I = none) (hX0 : H0.get? X = none) (hl : H0.IsList a vs.toArray) (hi : IntsAre vs ns)
    (hsz : ∀ j, j ≤ ns.length → ((ns.take j).flatMap fun n => (f n).map (g n)).length ≤ 100000)
    (hit : ∀ (s₁ : Shared) (m : Str → Option Value) (n : Int) (t : Tok) (E' : Value → Shared → Prop), H0.StaysIn s₁.heap → n ∈ ns → s₁.heap.Ns C m → s₁.heap.IsCell X (some (.int n t)) →
      wpAny (model prog w) A (eval i2 ce) (fun v s₂ => ∃ h' tk', s₂ = { s₁ with heap := h', toks := tk' } ∧ s₁.heap.StaysIn h' ∧ NewLists s₁.heap h' v (f n)) E' s₁)
    (helt : ∀ (s₁ : Shared) (m : Str → Option Value) (n : Int) (t : Tok) (u : Value) (ms : List Int) (E' : Value → Shared → Prop), H0.StaysIn s₁.heap → n ∈ ns → s₁.heap.Ns C m → m y = some u → s₁.heap.IsCell X (some (.int n t)) → Elem H0 D s₁.heap u ms → ms ∈ f n →
      wpAny (model prog w) A (eval elt ce) (fun v s₂ => ∃ h' tk', s₂ = { s₁ with heap := h', toks := tk' } ∧ s₁.heap.StaysIn h' ∧ (∃ a vs k, v = .ref a ∧ s₁.heap.get? a = none ∧ h'.get? a = some (listOf (vs : List Value).toArray k) ∧ IntsAre vs (g n ms))) E' s₁)
    (k0 : Nat) (m0 : Str → Option Value) (v0 : Option Value) (hst : H0.StaysIn s.heap) (hI : s.heap.IsListIter I a 0) (hD : s.heap.get? D = some (listOf ([] : List Value).toArray k0)) (hC : s.heap.Ns C m0) (hX : s.heap.IsCell X v0)
    (hR : ∀ h' tk' ys k m, H0.StaysIn h' → h'.get? D = some (listOf (ys : List Value).toArray k) → h'.Ns C m → AllAre (Elem H0 D h') ys (ns.flatMap fun n => (f n).map (g n)) → R (.ok .next) { s with heap := h', toks := tk' }) :
    codeAny (model prog w) A (.compLoop (cmp2 elt i1 i2 x y px py pos scope) 0 (.ref I) (.ref D) ce) R s := by
  refine codeAny_loop rfl (fun k s' => ∃ h' tk' ys kd m v, ∃ j : Nat, s' = { s with heap := h', toks := tk' } ∧ j ≤ ns.length ∧ k = ns.length - j ∧ H0.StaysIn h' ∧ h'.IsListIter I a j ∧ h'.get? D = some (listOf (ys : List Value).toArray kd) ∧
      h'.Ns C m ∧ h'.IsCell X v ∧ AllAre (Elem H0 D h') ys ((ns.take j).flatMap fun n => (f n).map (g n))) ?_ ns.length
    ⟨s.heap, s.toks, [], k0, m0, v0, 0, rfl, Nat.zero_le _, rfl, hst, hI, hD, hC, hX, by simpa using AllAre.nil⟩
  rintro k s' ⟨h, tk, ys, kd, m, v1, j, rfl, hj, rfl, st, iI, iD, iC, iX, iys⟩
  show wpAny _ A ((compTurn (cmp2 elt i1 i2 x y px py pos scope) 0 (.ref I) (.ref D) ce).onRaise (fun x => do noteFrame x ce; theTreesLotGoes x)) _ _ _
  refine wpAny_noted ?_
  rw [turn0]
  have hl' : h.IsList a vs.toArray := stays_list st hl
  refine wpAny_bind (wpAny_standAt (wpAny_bind ?_))
  cases hv : ns[j]? with
  | none =>
    have hjn : ns.length ≤ j := List.getElem?_eq_none_iff.mp hv
    have hvn : vs[j]? = none := List.getElem?_eq_none_iff.mpr (by rw [hi.length]; exact hjn)
    refine wpAny_pyNext_list_end hh iI hl' (by rw [List.getElem?_toArray]; exact hvn) fun h₁ he => ?_
    have lk : LK D h h₁ := LK.of_but (fun b o hb e => he b o hb e) (not_list_iter iI)
    rw [List.take_of_length_le hjn] at iys
    exact wpAny_pure (hR h₁ tk ys kd m (fun b o e => he b o (fun q => by rw [q, hI0] at e; cases e) (st b o e)) (he D _ (Ne.symm hID) iD) (iC.extBut he (Ne.symm hIC)) (iys.imp fun _ _ q => q.keep lk))
  | some n =>
    have hlt : j < ns.length := (List.getElem?_eq_some_iff.mp hv).1
    obtain ⟨t, hvt⟩ := hi.get j n hv
    have hmem : n ∈ ns := List.mem_of_getElem? hv
    refine wpAny_pyNext_list_item iI hl' (x := .int n t) (by rw [List.getElem?_toArray]; exact hvt) fun h₁ iI₁ hs₁ => ?_
    have he₁ := hs₁.extBut
    have lk₁ : LK D h h₁ := LK.of_but (fun b o hb e => he₁ b o hb e) (not_list_iter iI)
    refine wpAny_bind (wpAny_of_eq (show letOwnedTupleGo (.Name x px) (.ref I) (.int n t) = pure () from rfl) ?_)
    have iX₁ : h₁.IsCell X v1 := let ⟨o, ho, hd⟩ := iX; ⟨o, he₁ X o (Ne.symm hIX) ho, hd⟩
    refine wpAny_bind (wpAny_assign_Name (wpAny_storeName_cell hkd hx hxc iX₁ fun h₂ iX₂ hs₂ => ?_))
    have he₂ := hs₂.extBut
    have lk₂ : LK D h₁ h₂ := LK.of_but (fun b o hb e => he₂ b o hb e) (not_list_cell iX₁)
    have st₁ : H0.StaysIn h₁ := fun b o e => he₁ b o (fun q => by rw [q, hI0] at e; cases e) (st b o e)
    have st₂ : H0.StaysIn h₂ := fun b o e => he₂ b o (fun q => by rw [q, hX0] at e; cases e) (st₁ b o e)
    have iC₂ : h₂.Ns C m := (iC.extBut he₁ (Ne.symm hIC)).extBut he₂ (Ne.symm hXC)
    have iI₂ : h₂.IsListIter I a (j + 1) := iI₁.extBut he₂ hIX
    have iD₂ : h₂.get? D = some (listOf ys.toArray kd) := he₂ _ _ (Ne.symm hXD) (he₁ _ _ (Ne.symm hID) iD)
    refine wpAny_bind (wpAny_mono (hit _ m n t _ st₂ hmem iC₂ iX₂) (fun v s₃ h₃ => ?_) fun _ _ e => e)
    obtain ⟨h₃, tk₃, rfl, k₃, b, us, nb, rfl, hb0, hbg, hus⟩ := h₃
    have hb0' : h₂.get? b = none := hb0
    have lk₃ : LK D h₂ h₃ := LK.of_stays k₃
    have iD₃ := k₃ _ _ iD₂
    have hbD : b ≠ D := fun q => by rw [q, iD₂] at hb0'; cases hb0'
    refine wpAny_bind (wpAny_standAt (wpAny_bind (wpAny_of_eq (hfold _) ?_)))
    refine wpAny_bind (wpAny_holding (wpAny_pyIter_list ⟨_, hbg, rfl, _, rfl⟩ ?_))
    have k₄ : h₃.StaysIn (h₃.push { cls := .type "list_iterator", data := .fields #[.ref b, .int 0 0] }) := fun b o e => Heap.get?_push_of_some _ e
    have lk₄ : LK D h₃ (h₃.push { cls := .type "list_iterator", data := .fields #[.ref b, .int 0 0] }) := LK.of_stays k₄
    have st₄ : H0.StaysIn (h₃.push { cls := .type "list_iterator", data := .fields #[.ref b, .int 0 0] }) := fun b o e => k₄ _ _ (k₃ _ _ (st₂ b o e))
    have lt : ∀ z o, h₃.get? z = some o → h₃.objs.size ≠ z := fun z o e q => by rw [← q] at e; exact absurd (Heap.lt_size e) (Nat.lt_irrefl _)
    obtain ⟨oI, hoI, _⟩ := id iI₂
    obtain ⟨oC, _, _, hoC, _⟩ := id iC₂
    obtain ⟨oX, hoX, _⟩ := id iX₂
    have up : ∀ v ms, Elem h₂ b h₃ v ms → Elem H0 D h₃ v ms := fun v ms ⟨z, ws, nz, e1, e2, e3, e4, e5⟩ => ⟨z, ws, nz, e1, fun q => (by rw [q, iD₂] at e3; cases e3), none_of st₂ e3, e4, e5⟩
    have I20 : H0.get? h₃.objs.size = none := by
      cases q : H0.get? h₃.objs.size with
      | none => rfl
      | some o => exact absurd rfl (lt _ _ (k₃ _ _ (st₂ _ _ q)))
    have hll : ((ns.take (j + 1)).flatMap fun n => (f n).map (g n)) = ((ns.take j).flatMap fun n => (f n).map (g n)) ++ (f n).map (g n) := by
      rw [List.take_add_one, hv, List.flatMap_append]; simp
    have hsz' := hsz (j + 1) hlt
    rw [hll, List.length_append, List.length_map] at hsz'
    refine wpAny_bind (wpAny_runOwn (h := none) ?_)
    have iI2 : (h₃.push { cls := .type "list_iterator", data := .fields #[.ref b, .int 0 0] }).IsListIter h₃.objs.size b 0 := ⟨_, Heap.get?_push_size _ rfl, rfl, rfl⟩
    have loop : codeAny (model prog w) (A.mark none) (.compLoop (cmp2 elt i1 i2 x y px py pos scope) 1 (.ref h₃.objs.size) (.ref D) ce)
        (fun r s' => match r with
          | .ok _ => wpAny (model prog w) A (again (.compLoop (cmp2 elt i1 i2 x y px py pos scope) 0 (.ref I) (.ref D) ce)) (fun fin s' => match fin with | .done f => R (.ok f) s' | .again c' => c' = (.compLoop (cmp2 elt i1 i2 x y px py pos scope) 0 (.ref I) (.ref D) ce) ∧ ∃ m, m < ns.length - j ∧
              (∃ h' tk' ys kd m' v, ∃ j' : Nat, s' = { s with heap := h', toks := tk' } ∧ j' ≤ ns.length ∧ m = ns.length - j' ∧ H0.StaysIn h' ∧ h'.IsListIter I a j' ∧ h'.get? D = some (listOf (ys : List Value).toArray kd) ∧
      h'.Ns C m' ∧ h'.IsCell X v ∧ AllAre (Elem H0 D h') ys ((ns.take j').flatMap fun n => (f n).map (g n)))) (notedBy (model prog w) A ce fun e s' => R (.error e) s') s'
          | .error e => cameBackBy (model prog w) A ce (notedBy (model prog w) A ce fun e s' => R (.error e) s') e s')
        { s with heap := h₃.push { cls := .type "list_iterator", data := .fields #[.ref b, .int 0 0] }, toks := tk₃ } := by
      refine inner_loop (A := A.mark none) (H0 := H0) (I := I) (I2 := h₃.objs.size) (D := D) (C := C) (X := X) (b := b) (us := us) (mss := f n) (zss := (ns.take j).flatMap fun n => (f n).map (g n)) (g := g n) (l0 := a) (i0 := j + 1) (vx := .int n t)
        hh hloc hkd hy hbD hCD (lt _ _ iD₃) hID hXD hXC hIC (lt _ _ (k₃ _ _ hoI)) (lt _ _ (k₃ _ _ hoC)) (lt _ _ (k₃ _ _ hoX)) hD0 hC0 I20 hsz' ?_ ys kd m st₄ ((iI₂.at fun o e => k₃ _ _ e).at fun o e => k₄ _ _ e) iI2 (k₄ _ _ iD₃) ((iC₂.keeps k₃).keeps k₄) ((iX₂.keeps k₃).keeps k₄) nb (k₄ _ _ hbg)
        (hus.imp fun _ _ q => (up _ _ q).keep lk₄) (iys.imp fun _ _ q => q.keep ((lk₁.trans lk₂).trans (lk₃.trans lk₄))) ?_
      · intro s₁ m₁ u ms E' hst₁ hns₁ hmu hx₁ hel hms
        exact helt s₁ m₁ n t u ms E' hst₁ hmem hns₁ hmu hx₁ hel hms
      · intro h₅ tk₅ ys₅ k₅ m₅ st₅ iI₅ iD₅ iC₅ iX₅ iys₅
        rw [← hll] at iys₅
        exact wpAny_pure ⟨rfl, ns.length - (j + 1), by omega, h₅, tk₅, ys₅, k₅, m₅, _, j + 1, rfl, hlt, rfl, st₅, iI₅, iD₅, iC₅, iX₅, iys₅⟩
    exact start1 loop (wpAny_pyIter_listiter iI2 loop)

theorem comp2_rule {cl : List (Str × Addr)} {a : Addr} {vs : List Value} {ns : List Int} {f : Int → List (List Int)} {g : Int → List Int → List Int} {Q : Value → Shared → Prop}
    (hclos : closureFor scope env = pure cl) (hkind : scope.kind = .function) (hnames : ∀ z ∈ scope.names, z.2 = .local → scope.names.lookup z.1 = some .local)
    (hcf : ∀ n, cellsFrom n scope.names cl = (x, n) :: cl) (hpc : ∀ h, pushCells h scope.names = h.push { cls := .type "cell", data := .cell none })
    (hx : (relabel scope env).names.lookup x = some .cell) (hy : (relabel scope env).names.lookup y = some .local)
    (hs1 : ∀ v, foldedSetIterable i1 env v = pure v) (hs2 : ∀ ce v, foldedSetIterable i2 ce v = pure v) (hh : A.handled = none)
    (hiter : ∀ (Q : Value → Shared → Prop), Q (.ref a) s → wpAny (model prog w) A (eval i1 env) Q E s)
    (hl : s.heap.IsList a vs.toArray) (hi : IntsAre vs ns) (hsz : ∀ j, j ≤ ns.length → ((ns.take j).flatMap fun n => (f n).map (g n)).length ≤ 100000)
    (hit : ∀ (C X : Addr) (s₁ : Shared) (m : Str → Option Value) (n : Int) (t : Tok) (E' : Value → Shared → Prop), s.heap.StaysIn s₁.heap → s.heap.get? C = none → s.heap.get? X = none → X ≠ C → n ∈ ns → s₁.heap.Ns C m → s₁.heap.IsCell X (some (.int n t)) →
      wpAny (model prog w) A (eval i2 (compEnvC scope ((x, X) :: cl) C env)) (fun v s₂ => ∃ h' tk', s₂ = { s₁ with heap := h', toks := tk' } ∧ s₁.heap.StaysIn h' ∧ NewLists s₁.heap h' v (f n)) E' s₁)
    (helt : ∀ (C X D : Addr) (s₁ : Shared) (m : Str → Option Value) (n : Int) (t : Tok) (u : Value) (ms : List Int) (E' : Value → Shared → Prop), s.heap.StaysIn s₁.heap → s.heap.get? C = none → s.heap.get? X = none → X ≠ C → n ∈ ns → s₁.heap.Ns C m → m y = some u →
      s₁.heap.IsCell X (some (.int n t)) → Elem s.heap D s₁.heap u ms → ms ∈ f n →
      wpAny (model prog w) A (eval elt (compEnvC scope ((x, X) :: cl) C env)) (fun v s₂ => ∃ h' tk', s₂ = { s₁ with heap := h', toks := tk' } ∧ s₁.heap.StaysIn h' ∧ (∃ a vs k, v = .ref a ∧ s₁.heap.get? a = none ∧ h'.get? a = some (listOf (vs : List Value).toArray k) ∧ IntsAre vs (g n ms))) E' s₁)
    (h : ∀ v h' tk', s.heap.StaysIn h' → NewLists s.heap h' v (ns.flatMap fun n => (f n).map (g n)) → Q v { s with heap := h', toks := tk' }) :
    wpAny (model prog w) A (eval (cmp2 elt i1 i2 x y px py pos scope) env) Q E s := by
  rw [eval_ListComp]
  refine wpAny_comprehension_free (use := none) rfl hs1 hclos hkind hnames (hiter _ (wpAny_pyIter_list hl ?_))
  refine wpAny_newObj_type (newEnv_cells ?_)
  dsimp only
  generalize hH1 : s.heap.push { cls := .type "list_iterator", data := .fields #[.ref a, .int 0 0] } = H1
  have z1 : H1.objs.size = s.heap.objs.size + 1 := by rw [← hH1, Heap.size_push]
  generalize hH2 : H1.push { cls := .type "list", dict := none, data := .seq ([] : List Value).toArray } = H2
  have z2 : H2.objs.size = s.heap.objs.size + 2 := by rw [← hH2, Heap.size_push, z1]
  rw [hcf, hpc]
  generalize hH3 : H2.push { cls := .type "dict", data := .dict #[] } = H3
  have z3 : H3.objs.size = s.heap.objs.size + 3 := by rw [← hH3, Heap.size_push, z2]
  generalize hH4 : H3.push { cls := .type "cell", data := .cell none } = H4
  have k1 : s.heap.StaysIn H1 := fun b o e => hH1 ▸ Heap.get?_push_of_some _ e
  have k2 : H1.StaysIn H2 := fun b o e => hH2 ▸ Heap.get?_push_of_some _ e
  have k3 : H2.StaysIn H3 := fun b o e => hH3 ▸ Heap.get?_push_of_some _ e
  have k4 : H3.StaysIn H4 := fun b o e => hH4 ▸ Heap.get?_push_of_some _ e
  have fr : ∀ z, s.heap.objs.size ≤ z → s.heap.get? z = none := fun z hz => Heap.get?_none_of_le hz
  have gI : H4.IsListIter s.heap.objs.size a 0 := ⟨_, k4 _ _ (k3 _ _ (k2 _ _ (hH1 ▸ Heap.get?_push_size _ rfl))), rfl, rfl⟩
  have gD : H4.get? (s.heap.objs.size + 1) = some (listOf ([] : List Value).toArray 0) := by
    rw [← z1]; exact k4 _ _ (k3 _ _ (hH2 ▸ Heap.get?_push_size _ rfl))
  have gC : H4.Ns (s.heap.objs.size + 2) (fun _ => none) := by
    rw [← z2, ← hH4, ← hH3]
    exact (Heap.Ns.new H2 (.type "dict")).keeps fun b o e => Heap.get?_push_of_some _ e
  have gX : H4.IsCell (s.heap.objs.size + 3) none := by
    rw [← z3]; exact ⟨_, hH4 ▸ Heap.get?_push_size _ rfl, rfl⟩
  have eC : H2.objs.size = s.heap.objs.size + 2 := z2
  rw [z2, z1]
  have n21 : s.heap.objs.size + 2 ≠ s.heap.objs.size + 1 := by omega
  have n01 : s.heap.objs.size ≠ s.heap.objs.size + 1 := by omega
  have n31 : s.heap.objs.size + 3 ≠ s.heap.objs.size + 1 := by omega
  have n32 : s.heap.objs.size + 3 ≠ s.heap.objs.size + 2 := by omega
  have n02 : s.heap.objs.size ≠ s.heap.objs.size + 2 := by omega
  have n03 : s.heap.objs.size ≠ s.heap.objs.size + 3 := by omega
  have loop : codeAny (model prog w) A (.compLoop (cmp2 elt i1 i2 x y px py pos scope) 0 (.ref s.heap.objs.size) (.ref (s.heap.objs.size + 1)) (compEnvC scope ((x, s.heap.objs.size + 3) :: cl) (s.heap.objs.size + 2) env))
      (compPost (model prog w) A E none Q (.ref (s.heap.objs.size + 1)) (s.heap.objs.size + 2)) { s with heap := H4 } := by
    refine outer_loop (H0 := s.heap) (I := s.heap.objs.size) (D := s.heap.objs.size + 1) (C := s.heap.objs.size + 2) (X := s.heap.objs.size + 3) (a := a) (vs := vs) (ns := ns) (f := f) (g := g) hh rfl (by simpa [compEnvC, relabel] using hkind) hx (by simp [compEnvC]) hy (hs2 _)
      n21 n01 n31 n32 n02 n03 (fr _ (by omega)) (fr _ (by omega)) (fr _ (by omega)) (fr _ (by omega)) hl hi hsz ?_ ?_ 0 _ none (fun b o e => k4 _ _ (k3 _ _ (k2 _ _ (k1 _ _ e)))) gI gD gC gX ?_
    · intro s₁ m n t E' hst hmem hns hX
      exact hit _ _ s₁ m n t E' hst (fr _ (by omega)) (fr _ (by omega)) n32 hmem hns hX
    · intro s₁ m n t u ms E' hst hmem hns hm hX hel hms
      exact helt _ _ _ s₁ m n t u ms E' hst (fr _ (by omega)) (fr _ (by omega)) n32 hmem hns hm hX hel hms
    · intro h' tk' ys k m hst hD hC hys
      refine ⟨m, hC, fun h'' hs'' => ?_⟩
      have he := hs''.extBut
      refine h _ h'' tk' (fun b o e => he b o (fun q => ?_) (hst b o e)) ⟨_, ys, k, rfl, fr _ (by omega), he _ _ (Ne.symm n21) hD, hys.imp fun _ _ q => q.keep (LK.of_but (fun b o hb e => he b o hb e) (not_list_ns hC))⟩
      rw [q, fr _ (by omega)] at e; cases e
  exact codeAny_compStart_list loop (wpAny_pyIter_listiter gI loop)
end
end Mine
end

section
namespace Mine
-- as PC, what comes back told by the heap
noncomputable def PCH (c : Cx) (f : Addr) (vs : List Value) (n : Nat) (s : Shared) (Post : Heap → Value → Prop) : Prop :=
  ∀ (A : Around) (Q E : Value → Shared → Prop), A.handled = none → A.depth + n < recursionLimit → A.units + 8 * n + 200 < cLine → c.At s.heap →
    (∀ r h' tk', s.heap.StaysIn h' → Post h' r → Q r { s with heap := h', toks := tk' }) →
    wpAny (model Challenge.rw_gm0006_01.row.prog c.w) A (call (.ref f) vs) Q E s
noncomputable def ordersK : Nat → List Int → List (List Int)
  | 0, _ => [[]]
  | k + 1, ns => if ns = [] then [[]] else ns.flatMap fun n => (ordersK k (ns.filter fun o => decide (o ≠ n))).map (n :: ·)
theorem flatMap_le {α β : Type} {F : α → List β} {B : Nat} : ∀ (l : List α), (∀ a ∈ l, (F a).length ≤ B) → (l.flatMap F).length ≤ l.length * B
  | [], _ => by simp
  | a :: l, h => by
    have h1 := flatMap_le l fun b hb => h b (.tail _ hb)
    have h2 := h a (.head _)
    rw [List.flatMap_cons, List.length_append, List.length_cons, Nat.add_mul]; omega
noncomputable def factB : Nat → Nat
  | 0 => 1
  | k + 1 => (k + 1) * factB k
theorem factB_pos : ∀ k, 1 ≤ factB k
  | 0 => Nat.le_refl _
  | k + 1 => Nat.mul_le_mul (Nat.succ_le_succ (Nat.zero_le k)) (factB_pos k)
theorem ordersK_le : ∀ (k : Nat) (ns : List Int), ns.length ≤ k → (ordersK k ns).length ≤ factB k
  | 0, _, _ => Nat.le_refl _
  | k + 1, ns, h => by
    unfold ordersK
    by_cases h0 : ns = []
    · rw [if_pos h0]; exact factB_pos _
    · rw [if_neg h0]
      refine Nat.le_trans (flatMap_le (B := factB k) ns fun n hn => ?_) (Nat.mul_le_mul_right _ h)
      rw [List.length_map]
      refine ordersK_le k _ ?_
      have hlt : (ns.filter fun o => decide (o ≠ n)).length < ns.length := by
        refine List.length_filter_lt_length_iff_exists.mpr ⟨n, hn, by simp⟩
      omega
theorem ordersK_mem : ∀ (k : Nat) (ns ms : List Int), ms ∈ ordersK k ns → ms.length ≤ k
  | 0, _, ms, h => by simp only [ordersK, List.mem_singleton] at h; rw [h]; exact Nat.le_refl _
  | k + 1, ns, ms, h => by
    unfold ordersK at h
    by_cases h0 : ns = []
    · rw [if_pos h0, List.mem_singleton] at h; rw [h]; exact Nat.zero_le _
    · rw [if_neg h0] at h
      obtain ⟨n, _, hm⟩ := List.mem_flatMap.mp h
      obtain ⟨r, hr, rfl⟩ := List.mem_map.mp hm
      have := ordersK_mem k _ r hr
      simp only [List.length_cons]; omega
theorem add_raw {prog : Program} {w : World} {A : Around} {E : Value → Shared → Prop} {s : Shared} {l b : Addr} {vs ws : List Value} {Q : Value → Shared → Prop} (hl : s.heap.IsList l vs.toArray) (hb : s.heap.IsList b ws.toArray)
    (hsz : vs.length + ws.length ≤ sizeLine) (h : Q (.ref s.heap.objs.size) { s with heap := s.heap.push { cls := .type "list", data := .seq (vs ++ ws).toArray } }) :
    wpAny (model prog w) A (binaryOp .Add (.ref l) (.ref b)) Q E s := by
  obtain ⟨⟨cls, dd, data, sl⟩, ho, hc, n, hd⟩ := id hl
  obtain ⟨⟨cls2, dd2, data2, sl2⟩, ho2, hc2, n2, hd2⟩ := id hb
  simp only at hc hd hc2 hd2
  subst hc hd hc2 hd2
  have e : vs.toArray ++ ws.toArray = (vs ++ ws).toArray := by simp
  refine concat_meets ⟨_, ho, rfl⟩ ⟨_, ho2, rfl⟩ noFill_list_add seq_list_add PySem.F.slot_list_add PySem.F.entry_list_add (PySem.F.args_list_add_2 _ _) (list_addW l b vs.toArray ws.toArray n n2 dd dd2 sl sl2 (by simpa using hsz)) ⟨ho, ho2, ?_⟩
  rw [e]
  exact h
section
theorem orders_pcK (c : Cx) : ∀ (k : Nat) (ns : List Int) (s : Shared) (v : Value), ns.length < k → k ≤ 6 → IntsAt s.heap v ns → PCH c 112 [v] (k + 1) s (fun h' r => NewLists s.heap h' r (ordersK k ns)) := by
  intro k
  induction k with
  | zero => exact fun ns s v hk => absurd hk (Nat.not_lt_zero _)
  | succ k ih =>
    intro ns s v hk hk2 hR
    obtain ⟨a, vs, rfl, hl, hi⟩ := hR
    unfold PCH Cx.At
    k_fill
    intro A Q E hA hd hu H hret
    obtain ⟨hdl, dp, fr, gd, un⟩ := A
    cases hA
    dsimp only at hd hu
    (k_dflt (refine' enter_cells ?H ?room ?k6 ?k7 ?k9 ?kB ?kD ?_ ?c2 ?c3 ?c4; (case H => assumption); (case k6 => k_is); (case k7 => k_is); (case k9 => exact BindsTo.of_eq rfl); (case kB => exact rfl); (case kD => decide +kernel); (case c2 => exact rfl); (case c3 => exact rfl); (case c4 => exact rfl); (case room => (dsimp only; omega)); k_whole))
    intro g L' h1 tk cells kG F1 N1 Y1 X1 T1
    k_cells Y1
    (try dsimp only); (try k_fold)
    have hlg := stays_list kG hl
    k_steps
    · (rename (decide (ns = []) = true) => h0); (rename Fr _ _ _ _ => F2); (rename News _ _ _ _ => N2); (rename _ ∧ _ ∧ _ => lt2)
      obtain rfl : ns = [] := of_decide_eq_true h0
      have q1 := N2 _ (.head _)
      have q2 := N2 _ (.tail _ (.head _))
      exact hret _ _ _ (fun b o e => Fr.keep F2 _ _ (kG _ _ e)) ⟨_, _, _, rfl, none_of kG q1.2.2, q1.1, .cons ⟨_, [], _, rfl, Nat.ne_of_lt lt2.1, none_of kG q2.2.2, q2.1, .nil⟩ .nil⟩
    · (rename (decide (ns = []) = false) => h0); (rename Fr _ _ _ _ => F2); (rename News _ _ _ _ => N2); (rename Obj => o9)
      refine ⟨?_⟩
      have hne : ns ≠ [] := of_decide_eq_false h0
      have hBk : factB k ≤ 720 := by
        have : k ≤ 5 := by omega
        match k, this with
        | 0, _ => decide
        | 1, _ => decide
        | 2, _ => decide
        | 3, _ => decide
        | 4, _ => decide
        | 5, _ => decide
      have hflt : ∀ n ∈ ns, (ns.filter fun o => decide (o ≠ n)).length < k := fun n hn => by
        have hlt : (ns.filter fun o => decide (o ≠ n)).length < ns.length := List.length_filter_lt_length_iff_exists.mpr ⟨n, hn, by simp⟩
        omega
      refine comp2_rule (f := fun n => ordersK k (ns.filter fun o => decide (o ≠ n))) (g := fun n r => n :: r) (a := a) (vs := vs) (ns := ns) (cl := [(Str.ofString "numbers", L' + 1)])
        (by with_unfolding_all rfl) rfl (by decide) (fun _ => rfl) (fun _ => rfl) rfl rfl (fun _ => rfl) (fun _ _ => rfl) rfl ?iter (stays_list F2.keep hlg) hi ?sz ?hit ?helt ?fin
      case iter =>
        intro Q hQ
        exact nameX_C N2 (o := _) (c := L' + 1) rfl (.tail _ (.head _)) (by assumption) hQ
      case sz =>
        intro j hj
        refine Nat.le_trans (flatMap_le (B := 720) _ fun n hn => ?_) (Nat.le_trans (Nat.mul_le_mul_right 720 (m := 6) ?_) (by decide))
        · rw [List.length_map]
          exact Nat.le_trans (ordersK_le k _ (Nat.le_of_lt (hflt n (List.mem_of_mem_take hn)))) hBk
        · have := List.length_take_le j ns
          omega
      case hit =>
        intro C X s₁ m3 n t E' st hC hX hXC hn iC iX
        obtain ⟨oC, eC, hoC⟩ := LCg.ns_obj iC
        obtain ⟨oX, eX, hoX⟩ := iX
        have F3 := F2.keeps st
        have N3 : News g L' s₁.heap [(C, oC), (X, oX), (L' + 1, o9)] := by
          have nL : ∀ z, Heap.get? _ z = none → z ≠ L' := fun z e q => by
            obtain ⟨oL, _, _, hL, _⟩ := F2.ns
            rw [q] at e; exact absurd (hL.symm.trans e) (by simp)
          intro q hq
          rcases List.mem_cons.mp hq with rfl | hq
          · exact ⟨eC, nL _ hC, none_of F2.keep hC⟩
          rcases List.mem_cons.mp hq with rfl | hq
          · exact ⟨eX, nL _ hX, none_of F2.keep hX⟩
          · exact ⟨st _ _ (N2 _ (.tail _ hq)).1, (N2 _ (.tail _ hq)).2⟩
        k_steps
        refine ⟨?_⟩
        refine comp_filter (fun o => decide (o ≠ n)) (cl := [(Str.ofString "one", X)]) (by with_unfolding_all rfl) (by decide) rfl (by decide) rfl (by decide) rfl (fun _ => rfl) ?iter2 (stays_list F3.keep hlg) hi (by omega) F3 N3 ?test2 ?fin2
        case iter2 =>
          intro Q hQ
          exact wpAny_Name (wpAny_loadName_cell rfl rfl rfl ⟨o9, (N3 _ (.tail _ (.tail _ (.head _)))).1, by assumption⟩ hQ) (by decide)
        case test2 =>
          intro C2 oC2 n2 t2 s3 m4 E4 hn2 hoC2 hm4 F4 N4 st4
          k_steps
          · by_cases q : n2 = n <;> simp [q]
          · exact ⟨_, _, rfl, fun _ _ e => e⟩
        case fin2 =>
          intro D h5 tk5 us5 k5 F5 N5 i5 st5 ne5
          k_steps
          refine ih _ _ _ (hflt n hn) (by omega) ⟨D, us5, rfl, N5.isList (.head _), i5⟩ _ _ _ rfl (by dsimp [Around.deeper]; omega) (by dsimp [Around.deeper]; omega) ⟨X1.keeps F5.keep, T1.keeps F5.keep⟩ ?_
          intro r h' tk' k6 p6
          exact ⟨h', tk', rfl, fun b o e => k6 _ _ (st5 _ _ e), p6.after st5⟩
      case helt =>
        intro C X D s₁ m3 n t u ms E' st hC hX hXC hn iC eu iX hE hms
        obtain ⟨oC, eC, hoC⟩ := LCg.ns_obj iC
        obtain ⟨oX, eX, hoX⟩ := iX
        obtain ⟨au, vsu, nu, rfl, hauD, hau0, hau, hiu⟩ := hE
        have F3 := F2.keeps st
        have N3 : News g L' s₁.heap [(C, oC), (X, oX), (au, listOf vsu.toArray nu), (L' + 1, o9)] := by
          have nL : ∀ z, Heap.get? _ z = none → z ≠ L' := fun z e q => by
            obtain ⟨oL, _, _, hL, _⟩ := F2.ns
            rw [q] at e; exact absurd (hL.symm.trans e) (by simp)
          intro q hq
          rcases List.mem_cons.mp hq with rfl | hq
          · exact ⟨eC, nL _ hC, none_of F2.keep hC⟩
          rcases List.mem_cons.mp hq with rfl | hq
          · exact ⟨eX, nL _ hX, none_of F2.keep hX⟩
          rcases List.mem_cons.mp hq with rfl | hq
          · exact ⟨hau, nL _ hau0, none_of F2.keep hau0⟩
          · exact ⟨st _ _ (N2 _ (.tail _ hq)).1, (N2 _ (.tail _ hq)).2⟩
        have hlm := ordersK_mem _ _ _ hms
        refine wpAny_BinOp (wpAny_List (wpAny_items_cons (wpAny_Name (wpAny_loadName_cell rfl rfl rfl ⟨oX, eX, hoX⟩ ?_) (by decide)) (by rfl)))
        refine wpAny_items_nil ⟨Nat.le_trans (Nat.le_refl 1) (by decide), ?_⟩
        have p1 : s₁.heap.StaysIn (s₁.heap.push { cls := .type "list", data := .seq [Value.int n t].toArray }) := fun b o e => Heap.get?_push_of_some _ e
        have hn1 := Heap.get?_push_size (o := ({ cls := .type "list", data := .seq [Value.int n t].toArray } : Obj)) s₁.heap rfl
        generalize hH1 : s₁.heap.push { cls := .type "list", data := .seq [Value.int n t].toArray } = H1 at p1 hn1 ⊢
        have z1 : H1.objs.size = s₁.heap.objs.size + 1 := by rw [← hH1, Heap.size_push]
        refine wpAny_Name (wpAny_loadName_local rfl rfl (iC.keeps p1) eu ?_) (by decide)
        refine add_raw (vs := [Value.int n t]) (ws := vsu) ⟨_, hn1, rfl, _, rfl⟩ ⟨_, p1 _ _ hau, rfl, _, rfl⟩ (by have e := hiu.length; simp only [List.length_cons, List.length_nil]; exact Nat.le_trans (m := 100) (by omega) (by decide)) ?_
        refine ⟨_, _, rfl, fun b o e => Heap.get?_push_of_some _ (p1 _ _ e), _, _, _, rfl, Heap.get?_none_of_le (by rw [z1]; omega), Heap.get?_push_size _ rfl, ?_⟩
        exact .cons n t hiu
      case fin =>
        intro v h' tk' st hnl
        refine hret _ _ _ (fun b o e => st _ _ (F2.keep _ _ (kG _ _ e))) ?_
        have e : ordersK (k + 1) ns = ns.flatMap fun n => (ordersK k (ns.filter fun o => decide (o ≠ n))).map (n :: ·) := by
          conv => lhs; unfold ordersK
          rw [if_neg hne]
        show NewLists s.heap h' v (ordersK (k + 1) ns)
        rw [e]
        exact hnl.after fun b o e => F2.keep _ _ (kG _ _ e)
end
end Mine
end

section
namespace Mine
noncomputable def KeepBut (as : List Addr) (h h' : Heap) : Prop := ∀ b o, b ∉ as → h.get? b = some o → h'.get? b = some o
theorem KeepBut.refl {as : List Addr} {h : Heap} : KeepBut as h h := fun _ _ _ e => e
theorem KeepBut.trans {as : List Addr} {h h' h'' : Heap} (x : KeepBut as h h') (y : KeepBut as h' h'') : KeepBut as h h'' := fun b o n e => y b o n (x b o n e)
theorem KeepBut.of {as : List Addr} {h h' : Heap} (k : h.StaysIn h') : KeepBut as h h' := fun b o _ e => k b o e
theorem KeepBut.mono {as bs : List Addr} {h h' : Heap} (x : KeepBut as h h') (hs : ∀ a ∈ as, a ∈ bs) : KeepBut bs h h' := fun b o n e => x b o (fun q => n (hs _ q)) e
theorem KeepBut.stays {as : List Addr} {g h h' : Heap} (k : g.StaysIn h) (x : KeepBut as h h') (hn : ∀ a ∈ as, g.get? a = none) : g.StaysIn h' := fun b o e =>
  x b o (fun q => by rw [hn b q] at e; cases e) (k b o e)
theorem KeepBut.end {led : List (Addr × Obj)} {h g h' : Heap} {as : List Addr} (k : KeepBut (led.map (·.1)) h g) (k2 : g.StaysIn h') (hl : ∀ p ∈ led, h.get? p.1 = some p.2) (hk : ∀ p ∈ led, p.1 ∉ as → h'.get? p.1 = some p.2) : KeepBut as h h' := fun b o n e => by
  by_cases hb : b ∈ led.map (·.1)
  · obtain ⟨p, hp, rfl⟩ := List.mem_map.mp hb
    have := hl p hp
    rw [e] at this; cases this
    exact hk p hp n
  · exact k2 _ _ (k b o hb e)

-- the law's ground with the two tables' code objects
structure Cx.At2 (c : Cx) (h : Heap) : Prop where
  X : (hd.heap_39 c.w.params).In h
  T : Top topProg c.loose c.mean c.mg c.mb h
  c1 : CodeHd h 59 55
  c2 : CodeHd h 52 48
theorem Cx.At2.keeps {c : Cx} {h h' : Heap} (x : c.At2 h) (k : h.StaysIn h') : c.At2 h' := ⟨x.X.keeps k, x.T.keeps k, x.c1.keeps k, x.c2.keeps k⟩

-- a call that changes no more than the objects of chg
noncomputable def PM (c : Cx) (f : Addr) (vs : List Value) (n : Nat) (chg : List Addr) (s : Shared) (Post : Heap → Value → Prop) : Prop :=
  ∀ (A : Around) (Q E : Value → Shared → Prop), A.handled = none → A.depth + n < recursionLimit → A.units + 8 * n + 200 < cLine →
    (∀ r h' tk', KeepBut chg s.heap h' → Post h' r → Q r { s with heap := h', toks := tk' }) →
    wpAny (model Challenge.rw_gm0006_01.row.prog c.w) A (call (.ref f) vs) Q E s
section
variable {c : Cx} {h₀ : Heap} {L : Addr} {m : Str → Option Value} {news rest : List (Addr × Obj)} {h h' : Heap} {as : List Addr}
theorem fr_but (F : Fr h₀ L h m) (N : News h₀ L h news) (k : KeepBut as h h') (ha : ∀ a ∈ as, a ∈ news.map (·.1)) : Fr h₀ L h' m := by
  have hL : L ∉ as := fun q => by obtain ⟨p, hp, e⟩ := List.mem_map.mp (ha _ q); exact (N p hp).2.1 e
  have h0 : ∀ a ∈ as, h₀.get? a = none := fun a q => by obtain ⟨p, hp, e⟩ := List.mem_map.mp (ha _ q); rw [← e]; exact (N p hp).2.2
  obtain ⟨o, es, ep, e, r⟩ := F.ns
  exact ⟨⟨o, es, ep, k _ _ hL e, r⟩, KeepBut.stays F.keep k h0, F.above⟩
theorem news_but (N : News h₀ L h news) (k : KeepBut as h h') (hr : ∀ p ∈ rest, p ∈ news ∧ p.1 ∉ as) : News h₀ L h' rest := fun p hp =>
  ⟨k _ _ (hr p hp).2 (N p (hr p hp).1).1, (N p (hr p hp).1).2⟩
end
section
variable {c : Cx} {A : Around} {s : Shared} {Q E : Value → Shared → Prop} {name qual : Str} {params : Arguments} {body : List Stmt} {scope : Scope} {dV kV doc pm cdv ct oc : Value} {an od : Option Addr}
  {osl : Array (Option Value)} {f : Addr} {args : List Value} {binds : List (Str × Value)} {g0 : Heap} {led : List (Addr × Obj)} {cl : List (Str × Addr)}

-- into a def's body, with the objects of led laid into the ledger
theorem enter_fn (k0 : g0.StaysIn s.heap) (hled : ∀ p ∈ led, s.heap.get? p.1 = some p.2 ∧ g0.get? p.1 = none) (nl : g0.NoLimit) (hroom : A.depth < recursionLimit)
    (ho : s.heap.get? f = some ⟨oc, od, .func (fnX name qual params body scope cl dV kV doc pm an cdv ct), osl⟩) (hcd : s.heap.CodeRec cdv qual)
    (hbind : BindsTo s (fnX name qual params body scope cl dV kV doc pm an cdv ct) ⟨args, []⟩ binds) (hloc : ∀ y ∈ binds, scope.names.lookup y.1 = some .local)
    (h : ∀ g L' h₁, g0.StaysIn g → KeepBut (led.map (·.1)) s.heap g → g.StaysIn s.heap → Fr g L' h₁ (fun y => binds.reverse.lookup y) → News g L' h₁ led → (∀ p ∈ led, p.1 < L') →
      wpAny (model Challenge.rw_gm0006_01.row.prog c.w) (A.deeper (envX qual scope L' f cdv cl)) (execs body (envX qual scope L' f cdv cl)) (fun fl s' => Q (match fl with | .ret v => v | _ => .none) s') (fun _ _ => False)
        { s with heap := h₁, toks := s.toks + binds.length })
    (hco : scope.isCoroutine = false) (hgen : scope.isGenerator = false) (hk : scope.kind = .function) (hcell : ∀ x ∈ scope.names, x.2 ≠ .cell) :
    wpAny (model Challenge.rw_gm0006_01.row.prog c.w) A (call (.ref f) args) Q E s := by
  refine wpAny_call ?_
  refine codeAny_call_def (fd := fnX name qual params body scope cl dV kV doc pm an cdv ct) (body := body) (binds := binds) hroom ho rfl (nl.keeps k0) hcd rfl hbind hcell hloc (fun h₁ hns hk₁ => ?_) hco hgen hk
  have kb : KeepBut (led.map (·.1)) s.heap (hideAll s.heap (led.map (·.1))) := fun b o n e => hideAll_get _ e n
  refine wpAny_mono (h (hideAll s.heap (led.map (·.1))) s.heap.objs.size h₁ (fun b o e => kb b o (fun q => ?_) (k0 b o e)) kb (fun b o e => of_hideAll _ e)
    ⟨hns, fun b o e => hk₁ b o (of_hideAll _ e), Nat.le_of_eq (hideAll_size _ _)⟩ (fun p hp => ⟨hk₁ _ _ (hled p hp).1, Nat.ne_of_lt (Heap.lt_size (hled p hp).1), hideAll_none _ (List.mem_map_of_mem hp)⟩)
    fun p hp => Heap.lt_size (hled p hp).1) (fun fl s' q => q) fun _ _ q => q.elim
  obtain ⟨p, hp, rfl⟩ := List.mem_map.mp q
  rw [(hled p hp).2] at e; cases e
theorem enter_fnC (k0 : g0.StaysIn s.heap) (hled : ∀ p ∈ led, s.heap.get? p.1 = some p.2 ∧ g0.get? p.1 = none) (nl : g0.NoLimit) (hroom : A.depth < recursionLimit)
    (ho : s.heap.get? f = some ⟨oc, od, .func (fnOf name qual params body scope dV kV doc pm an cdv ct), osl⟩) (hcd : s.heap.CodeRec cdv qual)
    (hbind : BindsTo s (fnOf name qual params body scope dV kV doc pm an cdv ct) ⟨args, []⟩ binds) (hkind : (binds.all fun y => scope.names.lookup y.1 == some .local || scope.names.lookup y.1 == some .cell) = true)
    (hnd : ((cellsFrom 0 scope.names []).map (·.1)).Nodup)
    (h : ∀ g L' h₁ tk cells, g0.StaysIn g → KeepBut (led.map (·.1)) s.heap g → g.StaysIn s.heap → Fr g L' h₁ (bindL (envOfC qual scope L' f cdv).kindOf binds fun _ => none) → News g L' h₁ (cells ++ led) →
      CellsAre (bindC (envOfC qual scope L' f cdv).kindOf binds fun _ => none) (cellsFrom (L' + 1) scope.names []) cells → (∀ p ∈ led, p.1 < L') →
      wpAny (model Challenge.rw_gm0006_01.row.prog c.w) (A.deeper (envOfC qual scope L' f cdv)) (execs body (envOfC qual scope L' f cdv)) (fun fl s' => Q (match fl with | .ret v => v | _ => .none) s') (fun _ _ => False)
        { s with heap := h₁, toks := tk })
    (hco : scope.isCoroutine = false) (hgen : scope.isGenerator = false) (hk : scope.kind = .function) :
    wpAny (model Challenge.rw_gm0006_01.row.prog c.w) A (call (.ref f) args) Q E s := by
  refine wpAny_call ?_
  refine codeAny_call_function hroom ho rfl hco hgen rfl hcd (hbind _ _ _ _ ?_)
  refine wpAny_newFunctionEnv_cells hk (kindsX hkind _) fun env' he s' x => ?_
  subst he
  refine ⟨(nl.keeps k0).keeps x.toInCall.keep, codeAny_func ?_⟩
  obtain ⟨h₁, tk, rfl, _⟩ := x.done
  obtain ⟨cells, NC, Y⟩ := Cl.news (h₀ := hideAll s.heap (led.map (·.1))) (Nat.le_of_eq (hideAll_size _ _)) fun n c hm => ⟨x.cell n c (lookup_of_mem_nodup (cellsFrom_names scope.names 0 (s.heap.objs.size + 1) [] [] rfl ▸ hnd) hm), x.above n c hm⟩
  have kb : KeepBut (led.map (·.1)) s.heap (hideAll s.heap (led.map (·.1))) := fun b o n e => hideAll_get _ e n
  refine wpAny_mono (h (hideAll s.heap (led.map (·.1))) s.heap.objs.size h₁ tk cells (fun b o e => kb b o (fun q => ?_) (k0 b o e)) kb (fun b o e => of_hideAll _ e)
    ⟨x.toInCall.ns, fun b o e => x.toInCall.keep b o (of_hideAll _ e), Nat.le_of_eq (hideAll_size _ _)⟩ (fun p hp => ?_) Y
    fun p hp => Heap.lt_size (hled p hp).1) (fun fl s' q => q) fun _ _ q => q.elim
  · obtain ⟨p, hp, rfl⟩ := List.mem_map.mp q
    rw [(hled p hp).2] at e; cases e
  · rcases List.mem_append.mp hp with hp | hp
    · exact NC p hp
    · exact ⟨x.toInCall.keep _ _ (hled p hp).1, Nat.ne_of_lt (Heap.lt_size (hled p hp).1), hideAll_none _ (List.mem_map_of_mem hp)⟩
end
-- a table of a def's inner code objects: empty, or filled by the one inner def
noncomputable def TabOk (h : Heap) (P : Addr) (line col : Nat) (qual : Str) : Prop :=
  h.get? P = some (tabObj #[]) ∨ ∃ c', h.get? P = some (tabObj #[rawInt line, rawInt col, .ref c']) ∧ h.CodeRec (.ref c') qual
end Mine
end

section
namespace Mine
section
variable {c : Cx} {g h₀ h h2 : Heap} {L D : Addr} {m : Str → Option Value} {news : List (Addr × Obj)} {o o' o'' : Obj} {gg : Obj → List (Addr × Obj)}
theorem upd_mem (U : UpdF D o news gg) {p : Addr × Obj} (hp : p ∈ gg o') : p = (D, o') ∨ (p ∈ news ∧ p.1 ≠ D) := by
  obtain ⟨pre, post, e, eg, h1, h2⟩ := U.split
  rw [eg] at hp
  rcases List.mem_append.mp hp with hp | hp
  · exact .inr ⟨e ▸ List.mem_append_left _ hp, h1 _ hp⟩
  rcases List.mem_cons.mp hp with rfl | hp
  · exact .inl rfl
  · exact .inr ⟨e ▸ List.mem_append_right _ (.tail _ hp), h2 _ hp⟩
theorem upd_in (U : UpdF D o news gg) : (D, o) ∈ news := by
  obtain ⟨pre, post, e, eg, h1, h2⟩ := U.split
  rw [e]; exact List.mem_append_right _ (.head _)
theorem led_upd (N : News g L h news) (U : UpdF D o news gg) (kb : KeepBut [D] h h2) (hD : h2.get? D = some o') : ∀ p ∈ gg o', h2.get? p.1 = some p.2 ∧ g.get? p.1 = none := fun p hp => by
  rcases upd_mem U hp with rfl | ⟨hp, hn⟩
  · exact ⟨hD, (N _ (upd_in U)).2.2⟩
  · exact ⟨kb _ _ (by simpa using hn) (N p hp).1, (N p hp).2.2⟩
theorem news_upd (N : News g L h news) (U : UpdF D o news gg) (kb : KeepBut [D] h h2) (hD : h2.get? D = some o') : News g L h2 (gg o') := fun p hp => by
  refine ⟨(led_upd N U kb hD p hp).1, ?_, (led_upd N U kb hD p hp).2⟩
  rcases upd_mem U hp with rfl | ⟨hp, hn⟩
  · exact (N _ (upd_in U)).2.1
  · exact (N p hp).2.1
theorem KeepBut.endD {g2 : Heap} {L2 : Addr} {led led' : List (Addr × Obj)} {ff : Obj → List (Addr × Obj)} (U : UpdF D o led ff) (k : KeepBut (led.map (·.1)) h g2) (k2 : g2.StaysIn h2) (hl : ∀ p ∈ led, h.get? p.1 = some p.2 ∧ g.get? p.1 = none) (N : News g2 L2 h2 led') (e : led' = ff o') : KeepBut [D] h h2 :=
  k.end k2 (fun p hp => (hl p hp).1) fun p hp hn => (N p (by
    subst e
    obtain ⟨pre, post, e, eg, h1, h3⟩ := U.split
    rw [eg]; rw [e] at hp
    rcases List.mem_append.mp hp with hp | hp
    · exact List.mem_append_left _ hp
    rcases List.mem_cons.mp hp with rfl | hp
    · exact absurd (.head _) hn
    · exact List.mem_append_right _ (.tail _ hp))).1
theorem codeRec_but {v : Value} {q : Str} {its : Array Value} {n : Nat} (x : h.CodeRec v q) (kb : KeepBut [D] h h2) (hD : h.get? D = some (listOf its n)) : h2.CodeRec v q := by
  obtain ⟨a, oc, vs, t, e, ho, hd, hv⟩ := x
  refine ⟨a, oc, vs, t, e, kb _ _ (fun q => ?_) ho, hd, hv⟩
  rw [List.mem_singleton.mp q, hD] at ho; cases ho; cases hd
theorem codeRec_tab {v r : Value} {q : Str} {l c : Nat} {P : Addr} (x : h.CodeRec v q) (kb : KeepBut [P] h h2) (hP : h.get? P = some (tabObj #[rawInt l, rawInt c, r])) : h2.CodeRec v q := by
  obtain ⟨a, oc, vs, t, e, ho, hd, hv⟩ := x
  refine ⟨a, oc, vs, t, e, kb _ _ (fun q => ?_) ho, hd, hv⟩
  rw [List.mem_singleton.mp q, hP] at ho; cases ho; cases hd; cases hv
theorem codeRec_keeps {v : Value} {q : Str} (x : h.CodeRec v q) (k : h.StaysIn h2) : h2.CodeRec v q := by
  obtain ⟨a, oc, vs, t, e, ho, hd, hv⟩ := x
  exact ⟨a, oc, vs, t, e, k _ _ ho, hd, hv⟩
theorem PM.useD {f : Addr} {vs : List Value} {n : Nat} {s : Shared} {Post : Heap → Value → Prop} {A : Around} {Q E : Value → Shared → Prop}
    (P : PM c f vs n [D] s Post) (F : Fr h₀ L s.heap m) (N : News h₀ L s.heap news) (U : UpdF D o news gg) (hA : A.handled = none)
    (hd : A.depth + n < recursionLimit) (hu : A.units + 8 * n + 200 < cLine)
    (h : ∀ r h' tk', Fr h₀ L h' m → (∀ o', h'.get? D = some o' → News h₀ L h' (gg o')) → KeepBut [D] s.heap h' → Post h' r → Q r { s with heap := h', toks := tk' }) :
    wpAny (model Challenge.rw_gm0006_01.row.prog c.w) A (call (.ref f) vs) Q E s :=
  P A Q E hA hd hu fun r h' tk' k p => h r h' tk' (fr_but F N k fun a ha => by
    rw [List.mem_singleton.mp ha]; exact List.mem_map_of_mem (upd_in U)) (fun o' e => news_upd N U k e) k p
theorem PM.use0 {f : Addr} {vs : List Value} {n : Nat} {s : Shared} {Post : Heap → Value → Prop} {A : Around} {Q E : Value → Shared → Prop}
    (P : PM c f vs n [] s Post) (F : Fr h₀ L s.heap m) (N : News h₀ L s.heap news) (hA : A.handled = none)
    (hd : A.depth + n < recursionLimit) (hu : A.units + 8 * n + 200 < cLine)
    (h : ∀ r h' tk', Fr h₀ L h' m → News h₀ L h' news → s.heap.StaysIn h' → Post h' r → Q r { s with heap := h', toks := tk' }) :
    wpAny (model Challenge.rw_gm0006_01.row.prog c.w) A (call (.ref f) vs) Q E s :=
  P A Q E hA hd hu fun r h' tk' k p => h r h' tk' (fr_but F N k fun a ha => (nomatch ha)) (news_but N k fun p hp => ⟨hp, fun q => nomatch q⟩) (fun b o e => k b o (fun q => nomatch q) e) p
theorem list_but {a P : Addr} {its ps : Array Value} (x : h.IsList a its) (kb : KeepBut [P] h h2) (hP : h.get? P = some (tabObj ps)) : h2.IsList a its := by
  obtain ⟨o, ho, hc, r⟩ := x
  refine ⟨o, kb _ _ (fun q => ?_) ho, hc, r⟩
  rw [List.mem_singleton.mp q, hP] at ho; cases ho; cases hc
theorem news_new {d : Addr} {od : Obj} (F : Fr h₀ L h m) (N : News h₀ L h2 news) (hn : h.get? d = none) (e : h2.get? d = some od) : News h₀ L h2 ((d, od) :: news) := fun p hp => by
  rcases List.mem_cons.mp hp with rfl | hp
  · refine ⟨e, fun q => ?_, none_of F.keep hn⟩
    obtain ⟨o, _, _, ho, _⟩ := F.ns
    rw [show d = L from q, ho] at hn; cases hn
  · exact N p hp
theorem ne_new {p d : Nat} {od : Obj} (e : Heap.get? h p = some od) (hn : Heap.get? h d = none) : p ≠ d := fun q => by
  subst q; rw [hn] at e; cases e
end
end Mine
end

section
namespace Mine
-- what a table of an inner code object holds: nothing, or the one code object, which stands in the ground
noncomputable def TabIs (h₀ : Heap) (ps : Array Value) (line col : Nat) (qual : Str) : Prop :=
  ps = #[] ∨ ∃ cc : Addr, ps = #[rawInt line, rawInt col, .ref cc] ∧ h₀.CodeRec (.ref cc) qual
theorem tab_inj {a b : Array Value} (h : tabObj a = tabObj b) : a = b := by
  unfold tabObj at h
  injection h with _ _ h
  injection h
theorem TabOk.is {h g : Heap} {P : Addr} {l c : Nat} {q : Str} {ps : Array Value} (x : TabOk h P l c q) (e : h.get? P = some (tabObj ps)) (kb : KeepBut [P] h g) : TabIs g ps l c q := by
  rcases x with e' | ⟨cc, e', hc⟩
  · rw [e] at e'
    exact .inl (tab_inj (Option.some.inj e'))
  · have e2 := e'
    rw [e] at e'
    exact .inr ⟨cc, tab_inj (Option.some.inj e'), codeRec_tab hc kb e2⟩
theorem updF_same {D : Addr} {o : Obj} {news : List (Addr × Obj)} {g : Obj → List (Addr × Obj)} (U : UpdF D o news g) : g o = news := by
  obtain ⟨pre, post, e, eg, _, _⟩ := U.split
  rw [e, eg]
section
variable {prog : Program} {w : World} {A : Around} {E : Value → Shared → Prop} {s : Shared} {h₀ : Heap} {L c P a : Addr} {m mg mb : Str → Option Value} {news : List (Addr × Obj)} {g : Obj → List (Addr × Obj)} {ps : Array Value}
  {p : Program} {loose : List Str} {mean : ExcName → Option Value} {name qual cn : Str} {params : Arguments} {body : List Stmt} {scope cs : Scope} {ccd : Value} {cl clos : List (Str × Addr)} {pos : Pos} {firstLine : Nat}
-- a def within a def, whatever its table holds
theorem nest_any {Q : Value → Shared → Prop} (F : Fr h₀ L s.heap m) (N : News h₀ L s.heap news) (T : Top p loose mean mg mb h₀) (C : CodeHd h₀ c P) (hcd : ccd = .ref c) (U : UpdF P (tabObj ps) news g) (ht : TabIs h₀ ps pos.line pos.col qual)
    (hcl : closureFor scope (envX cn cs L a ccd cl) = pure clos)
    (h : ∀ f c' d od ctv doc h' tk, Fr h₀ L h' m →
      News h₀ L h' ((f, fnMade name qual params body scope clos doc ((mg "__name__").getD .none) c' ctv) :: (d, od) :: g (tabObj #[rawInt pos.line, rawInt pos.col, .ref c'])) →
      (∀ h'', h₀.StaysIn h'' → h''.get? d = some od → h''.CodeRec (.ref c') qual) → (∀ q ∈ news, q.1 < d) → (∀ q ∈ news, q.1 < f) → Q (.ref f) { s with heap := h', toks := tk }) :
    wpAny (model prog w) A (makeFunction name qual params (.stmts body) scope (envX cn cs L a ccd cl) [] [] [] pos firstLine) Q E s := by
  rcases ht with rfl | ⟨cc, rfl, hc⟩
  · exact nest_K F N T C hcd U True.intro rfl hcl fun f c' oc vs t ctv doc h' tk F' N' hd hv l1 l2 =>
      h f c' c' oc ctv doc h' tk F' N' (fun h'' _ e => ⟨c', oc, vs, t, rfl, e, hd, hv⟩) l1 fun q hq => Nat.lt_trans (l1 q hq) l2
  · refine nestHit_K (c' := cc) F N T C hcd (upd_in U) (by simp [TriplesOk, rawInt]) (by simp [codeAmong, rawInt]) hcl fun f ctv doc h' tk F' N' l1 => ?_
    refine h f cc f (fnMade name qual params body scope clos doc ((mg "__name__").getD .none) cc ctv) ctv doc h' tk F' (fun q hq => ?_) (fun h'' k _ => codeRec_keeps hc k) l1 l1
    rw [updF_same U] at hq
    rcases List.mem_cons.mp hq with rfl | hq
    · exact N' _ (.head _)
    · exact N' _ hq
end
end Mine
end

section
namespace Mine
noncomputable def innerM (n : Int) : Nat → Int → Int → Int → List Int → Option (List Int)
  | 0, _, _, _, _ => none
  | k + 1, x, L, R, ds =>
    if L + 1 = R then (if 0 ≤ L ∧ L < ds.length ∧ ds.length ≤ 100 then some (ds.set L.toNat x) else none)
    else
      let mid := (L + R).fdiv (2 ^ (1 : Int).toNat)
      let shift := (mid - L) * n
      let upper := x.fdiv (2 ^ shift.toNat)
      if 0 ≤ shift ∧ shift ≤ 1000 ∧ 0 ≤ upper ∧ upper ≤ 100000 then
        match innerM n k (Builtin.bitXor x (upper * 2 ^ shift.toNat)) L mid ds with
        | none => none
        | some d1 => innerM n k upper mid R d1
      else none
noncomputable def i2dM (a n : Int) : Option (List Int) :=
  let cnt := ((Builtin.Int.intBits a : Int) + n - 1).fdiv n
  if 0 < n ∧ n ≤ 64 ∧ 0 ≤ cnt ∧ cnt ≤ 20 then
    (if a ≠ 0 then innerM n 12 a 0 ((List.replicate cnt.toNat [(0 : Int)]).flatten.length : Nat) (List.replicate cnt.toNat [0]).flatten else some (List.replicate cnt.toNat [0]).flatten)
  else none
theorem setL_ok : ∀ (l : List Value) (k : Nat) (v : Value), k < l.length → ki_setL l k v = some (l.set k v)
  | [], _, _, h => absurd h (Nat.not_lt_zero _)
  | x :: l, 0, v, _ => rfl
  | x :: l, k + 1, v, h => by
    have := setL_ok l k v (Nat.lt_of_succ_lt_succ h)
    simp [ki_setL, this]
theorem IntsAre.set {vs : List Value} {ns : List Int} (h : IntsAre vs ns) (n : Int) (t : Tok) : ∀ k, IntsAre (vs.set k (.int n t)) (ns.set k n) := by
  induction h with
  | nil => intro k; exact .nil
  | cons m u _ ih =>
    intro k
    cases k with
    | zero => exact .cons n t (by assumption)
    | succ k => exact .cons m u (ih k)
section
theorem i2d_pm (c : Cx) (a n : Int) (t1 t2 : Tok) (ds : List Int) (s : Shared) (o48 : Obj) (hM : i2dM a n = some ds) (hat : ∃ g0, c.At2 g0 ∧ g0.StaysIn s.heap ∧ g0.get? 48 = none) (ht : TabOk s.heap 48 59 4 (Str.ofString "_int2digits.<locals>.inner")) :
    PM c 53 [.int a t1, .int n t2] 40 [48] s (fun h' r => TabOk h' 48 59 4 (Str.ofString "_int2digits.<locals>.inner") ∧ ∃ (d : Addr) (us : List Value) (nn : Nat), r = .ref d ∧ s.heap.get? d = none ∧ h'.get? d = some (listOf us.toArray nn) ∧ IntsAre us ds) := by
  obtain ⟨g0, a0, k0, n48⟩ := hat
  unfold i2dM at hM
  dsimp only at hM
  split at hM
  case isFalse => cases hM
  rename_i hb
  obtain ⟨hb1, hb4, hb2, hb3⟩ := hb
  have hb5 : n ≠ 0 := by omega
  have X0 := a0.X
  unfold PM
  revert X0; k_fill; intro X0
  intro A Q E hA hd hu hret
  obtain ⟨hdl, dp, fr, gd, un⟩ := A
  cases hA
  dsimp only at hd hu
  obtain ⟨p48, e48⟩ : ∃ ps, s.heap.get? 48 = some (tabObj ps) := by
    rcases ht with e | ⟨c', e, _⟩
    · exact ⟨_, e⟩
    · exact ⟨_, e⟩
  k_dflt (refine' enter_fnC (led := [(48, tabObj p48)]) k0 ?led a0.T.nolimit ?room (k0 _ _ (X0 _ _ ?fo)) (codeRec_of (X0.keeps k0) ?cd) ?bt ?kd ?nd ?_ ?r1 ?r2 ?r3; (case led => (intro p hp; cases hp with | head => exact ⟨e48, n48⟩ | tail _ h => cases h)); (case fo => k_is); (case cd => k_is); (case bt => exact BindsTo.of_eq rfl); (case kd => exact rfl); (case nd => decide +kernel); (case r1 => exact rfl); (case r2 => exact rfl); (case r3 => exact rfl); (case room => (dsimp only; omega)); k_whole)
  intro g L' h1 tk cells kg kb kl F1 N1 Y1 lt1
  k_cells Y1
  (try dsimp only); (try k_fold)
  have X1 := X0.keeps kg
  have T1 := a0.T.keeps kg
  have C1 := a0.c1.keeps kg
  have C2 := a0.c2.keeps kg
  dsimp only [List.cons_append, List.nil_append, List.map_cons, List.map_nil] at N1 lt1 kb
  k_lt lt1
  have hps := ht.is e48 kb
  k_steps
  refine ⟨?_⟩
  (rename Fr _ _ _ _ => F3); (rename News _ _ _ _ => N3)
  rename_i oI0 oA0 oN dI0 dA0 dN l1a h1a l1l D h2a i1 n1 s1 e1 e2 e3 l2l h3a oA dA
  k_dflt (refine' nestDef_K ?d0 ?k0 ?a0 ?_; (case d0 => exact rfl); (case k0 => exact rfl); (case a0 => exact rfl))
  k_dflt (refine' nest_any F3 N3 T1 C2 rfl ?upN hps rfl ?_; (case upN => k_updF))
  intro f cc dd od ct dc h4a tk4 F4 N4 K4 l3d l3l
  (try dsimp only at N4)
  k_lt l3d
  k_lt l3l
  clear F3 N3
  k_steps
  · rename_i h5 oI F5 N5 dI hne
    rw [if_pos hne] at hM
    have hcr : h5.CodeRec (.ref cc) (Str.ofString "_int2digits.<locals>.inner") := K4 _ F5.keep (N5 (dd, od) (by k_mem)).1
    have key : ∀ (k : Nat) (x Lo R : Int) (ms ms' : List Int) (vs : List Value) (nn : Nat) (t1 t2 t3 : Tok) (s2 : Shared), innerM n k x Lo R ms = some ms' → KeepBut [D] h5 s2.heap → s2.heap.get? D = some (listOf vs.toArray nn) → IntsAre vs ms →
        PM c f [.int x t1, .int Lo t2, .int R t3] k [D] s2 (fun h' r => r = .none ∧ ∃ (vs' : List Value) (nn' : Nat), h'.get? D = some (listOf vs'.toArray nn') ∧ IntsAre vs' ms') := by
      intro k
      induction k with
      | zero => intro x Lo R ms ms' vs nn t1 t2 t3 s2 hm; cases hm
      | succ k ih =>
        intro x Lo R ms ms' vs nn t1 t2 t3 s2 hm hkb hD hI
        have nD : g.get? D = none := (N5 (D, _) (by k_mem)).2.2
        have kS : g.StaysIn s2.heap := KeepBut.stays F5.keep hkb fun a ha => by rw [List.mem_singleton.mp ha]; exact nD
        unfold PM
        intro A Q E hA hd hu hret
        obtain ⟨hdl, dp, fr, gd, un⟩ := A
        cases hA
        dsimp only at hd hu
        have hled := led_upd N5 (by k_updF) hkb hD
        (try dsimp only at hled)
        k_dflt (refine' enter_fn kS hled T1.nolimit ?room (hkb _ _ ?nf (N5 (f, _) ?mf).1) ?hcd ?bt ?loc ?_ ?r1 ?r2 ?r3 ?r4; (case mf => k_mem); (case nf => exact fun q => absurd (List.mem_singleton.mp q) (Nat.ne_of_gt (by omega))); (case bt => exact BindsTo.of_eq rfl); (case hcd => exact codeRec_but hcr hkb (N5 (D, _) (by k_mem)).1); (case loc => exact locs rfl); (case r1 => exact rfl); (case r2 => exact rfl); (case r3 => exact rfl); (case r4 => decide); (case room => (dsimp only; omega)); k_whole)
        · intro g2 L2 h6 kg2 kb2 kl2 F6 N6 lt6
          (try dsimp only); (try k_fold)
          (try dsimp only at N6 lt6)
          k_lt lt6
          have T2 := T1.keeps kg2
          have X2 := X1.keeps kg2
          unfold innerM at hm
          by_cases hLR : Lo + 1 = R
          · rw [if_pos hLR] at hm
            split at hm
            case isFalse => cases hm
            rename_i hbd
            cases hm
            have hl1 := hI.length
            subst hLR
            k_steps
            rotate_left 1
            · exfalso; omega
            (rename Fr _ _ _ _ => F7); (rename News _ _ _ _ => N7)
            refine' hret _ _ _ (KeepBut.endD ?updW kb2 F7.keep hled N7 ?eqD) ⟨rfl, _, _, (N7 (D, _) ?memD).1, ints_set hI _⟩
            case updW => k_updF
            case eqD => exact rfl
            case memD => k_mem
          · rw [if_neg hLR] at hm
            dsimp only at hm
            split at hm
            case isFalse => cases hm
            rename_i hsh
            obtain ⟨hs1, hs2, hs3, hs4⟩ := hsh
            have hs5 : (x.fdiv (2 ^ (((Lo + R).fdiv (2 ^ Int.toNat 1) - Lo) * n).toNat)).natAbs < 2 ^ 64 := by
              refine Nat.lt_of_le_of_lt (m := 100000) (by omega) (by decide)
            split at hm
            case h_1 => cases hm
            rename_i d1 hm1
            k_steps
            · exfalso; omega
            (rename Fr _ _ _ _ => F7); (rename News _ _ _ _ => N7)
            refine' PM.useD (ih _ _ _ _ _ vs nn _ _ _ _ hm1 (hkb.trans (KeepBut.endD ?updV kb2 F7.keep hled N7 ?eqD)) (N7 (D, _) ?memD).1 hI) F7 N7 ?updW rfl (by dsimp [Around.deeper]; omega) (by dsimp [Around.deeper]; omega) ?_
            case updV => k_updF
            case eqD => exact rfl
            case memD => k_mem
            case updW => k_updF
            rintro r8 h8 tk8 F8 NN8 kb8 ⟨er8, vs8, nn8, hD8, hI8⟩
            subst er8
            have N8 := NN8 _ hD8
            (try dsimp only at N8)
            k_steps
            (rename Fr _ _ _ _ => F9); (rename News _ _ _ _ => N9)
            refine' PM.useD (ih _ _ _ _ _ vs8 nn8 _ _ _ _ hm (hkb.trans (KeepBut.endD ?updV kb2 F9.keep hled N9 ?eqD)) (N9 (D, _) ?memD).1 hI8) F9 N9 ?updW rfl (by dsimp [Around.deeper]; omega) (by dsimp [Around.deeper]; omega) ?_
            case updV => k_updF
            case eqD => exact rfl
            case memD => k_mem
            case updW => k_updF
            rintro r10 h10 tk10 F10 NN10 kb10 ⟨er10, vs10, nn10, hD10, hI10⟩
            subst er10
            have N10 := NN10 _ hD10
            (try dsimp only at N10)
            k_steps
            refine' hret _ _ _ (KeepBut.endD ?updX kb2 F10.keep hled N10 ?eqX) ⟨rfl, _, _, hD10, hI10⟩
            case updX => k_updF
            case eqX => exact rfl
    have hD5 := (N5 (D, _) (by k_mem)).1
    subst e1
    refine' PM.useD (key _ _ _ _ _ _ _ _ _ _ _ _ hM KeepBut.refl hD5 i1) F5 N5 ?updX rfl (by dsimp [Around.deeper]; omega) (by dsimp [Around.deeper]; omega) ?_
    case updX => k_updF
    rintro r10 h10 tk10 F10 NN10 kb10 ⟨er10, vs10, nn10, hD10, hI10⟩
    subst er10
    have N10 := NN10 _ hD10
    (try dsimp only at N10)
    k_steps
    refine' hret _ _ _ (fun b o n e => F10.keep _ _ (kb b o n e)) ⟨.inr ⟨cc, (N10 (48, _) ?memE).1, codeRec_but hcr kb10 hD5⟩, D, vs10, nn10, rfl, ?newD, hD10, hI10⟩
    case memE => k_mem
    case newD =>
      cases q : s.heap.get? D with
      | none => rfl
      | some o =>
        have := kb D o (fun q => absurd (List.mem_singleton.mp q) (Nat.ne_of_gt (show @LT.lt Nat instLTNat 48 D by omega))) q
        rw [(N5 (D, _) (by k_mem)).2.2] at this
        cases this
  · rename_i h5 oI F5 N5 dI hne
    subst hne
    rw [if_neg (by simp)] at hM
    cases hM
    have hD5 := (N5 (D, _) (by k_mem)).1
    refine' hret _ _ _ (fun b o n e => F5.keep _ _ (kb b o n e)) ⟨.inr ⟨cc, (N5 (48, _) ?memE).1, K4 _ F5.keep (N5 (dd, od) (by k_mem)).1⟩, D, _, _, rfl, ?newD, hD5, i1⟩
    case memE => k_mem
    case newD =>
      cases q : s.heap.get? D with
      | none => rfl
      | some o =>
        have := kb D o (fun q => absurd (List.mem_singleton.mp q) (Nat.ne_of_gt (show @LT.lt Nat instLTNat 48 D by omega))) q
        rw [(N5 (D, _) (by k_mem)).2.2] at this
        cases this
end
end Mine
end

section
namespace Mine
noncomputable def d2iI (n : Int) (ds : List Int) : Nat → Int → Int → Option Int
  | 0, _, _ => none
  | k + 1, L, R =>
    if L + 1 = R then (if 0 ≤ L ∧ L < ds.length ∧ ds.length ≤ 100 then some (ds.getD L.toNat 0) else none)
    else
      let mid := (L + R).fdiv (2 ^ (1 : Int).toNat)
      let shift := (mid - L) * n
      if 0 ≤ shift ∧ shift ≤ 1000 then
        match d2iI n ds k mid R with
        | none => none
        | some hi =>
          if 0 ≤ hi ∧ hi ≤ 100000 then
            match d2iI n ds k L mid with
            | none => none
            | some lo => some (hi * 2 ^ shift.toNat + lo)
          else none
      else none
noncomputable def d2iM (ds : List Int) (n : Int) : Option Int := if ds.length ≤ 100 ∧ 0 < n ∧ n ≤ 64 then (if ds = [] then some 0 else d2iI n ds 12 0 ds.length) else none
section
theorem d2i_pm (c : Cx) (n : Int) (t2 : Tok) (v : Value) (ds : List Int) (q : Int) (s : Shared) (hM : d2iM ds n = some q) (hat : ∃ g0, c.At2 g0 ∧ g0.StaysIn s.heap ∧ g0.get? 55 = none) (ht : TabOk s.heap 55 74 4 (Str.ofString "_digits2int.<locals>.inner"))
    (hR : IntsAt s.heap v ds) :
    PM c 60 [v, .int n t2] 40 [55] s (fun h' r => (∃ t, r = .int q t) ∧ TabOk h' 55 74 4 (Str.ofString "_digits2int.<locals>.inner")) := by
  obtain ⟨av, vs, rfl, hl, hi⟩ := hR
  obtain ⟨g0, a0, k0, n55⟩ := hat
  unfold d2iM at hM
  split at hM
  case isFalse => cases hM
  rename_i hsz
  obtain ⟨hsz, hb1, hb4⟩ := hsz
  have X0 := a0.X
  unfold PM
  revert X0; k_fill; intro X0
  intro A Q E hA hd hu hret
  obtain ⟨hdl, dp, fr, gd, un⟩ := A
  cases hA
  dsimp only at hd hu
  obtain ⟨p55, e55⟩ : ∃ ps, s.heap.get? 55 = some (tabObj ps) := by
    rcases ht with e | ⟨c', e, _⟩
    · exact ⟨_, e⟩
    · exact ⟨_, e⟩
  k_dflt (refine' enter_fnC (led := [(55, tabObj p55)]) k0 ?led a0.T.nolimit ?room (k0 _ _ (X0 _ _ ?fo)) (codeRec_of (X0.keeps k0) ?cd) ?bt ?kd ?nd ?_ ?r1 ?r2 ?r3; (case led => (intro p hp; cases hp with | head => exact ⟨e55, n55⟩ | tail _ h => cases h)); (case fo => k_is); (case cd => k_is); (case bt => exact BindsTo.of_eq rfl); (case kd => exact rfl); (case nd => decide +kernel); (case r1 => exact rfl); (case r2 => exact rfl); (case r3 => exact rfl); (case room => (dsimp only; omega)); k_whole)
  intro g L' h1 tk cells kg kb kl F1 N1 Y1 lt1
  k_cells Y1
  (try dsimp only); (try k_fold)
  have X1 := X0.keeps kg
  have T1 := a0.T.keeps kg
  have C1 := a0.c1.keeps kg
  have C2 := a0.c2.keeps kg
  dsimp only [List.cons_append, List.nil_append, List.map_cons, List.map_nil] at N1 lt1 kb
  k_lt lt1
  have hlg := list_but hl kb e55
  have hps := ht.is e55 kb
  k_steps
  refine ⟨?_⟩
  (rename Fr _ _ _ _ => F3); (rename News _ _ _ _ => N3)
  rename_i oI0 oA oN dI0 dA dN
  k_dflt (refine' nestDef_K ?d0 ?k0 ?a0 ?_; (case d0 => exact rfl); (case k0 => exact rfl); (case a0 => exact rfl))
  k_dflt (refine' nest_any F3 N3 T1 C1 rfl ?upN hps rfl ?_; (case upN => k_updF))
  intro f cc dd od ct dc h4a tk4 F4 N4 K4 l3d l3l
  (try dsimp only at N4)
  k_lt l3d
  k_lt l3l
  clear F3 N3
  k_steps
  · rename_i h5 oI F5 N5 dI hne
    rw [if_neg (by intro q; rw [q] at hne; exact absurd hne (by decide))] at hM
    have hcr : h5.CodeRec (.ref cc) (Str.ofString "_digits2int.<locals>.inner") := K4 _ F5.keep (N5 (dd, od) (by k_mem)).1
    have key : ∀ (k : Nat) (Lo R r : Int) (t2 t3 : Tok) (s2 : Shared), d2iI n ds k Lo R = some r → h5.StaysIn s2.heap →
        PM c f [.int Lo t2, .int R t3] k [] s2 (fun _ v => ∃ t, v = .int r t) := by
      intro k
      induction k with
      | zero => intro Lo R r t2 t3 s2 hm; cases hm
      | succ k ih =>
        intro Lo R r t2 t3 s2 hm hkb
        have kS : g.StaysIn s2.heap := fun b o e => hkb _ _ (F5.keep _ _ e)
        unfold PM
        intro A Q E hA hd hu hret
        obtain ⟨hdl, dp, fr, gd, un⟩ := A
        cases hA
        dsimp only at hd hu
        have hled := fun p hp => And.intro (hkb _ _ (N5 p hp).1) (N5 p hp).2.2
        (try dsimp only at hled)
        k_dflt (refine' enter_fn kS hled T1.nolimit ?room (hkb _ _ (N5 (f, _) ?mf).1) ?hcd ?bt ?loc ?_ ?r1 ?r2 ?r3 ?r4; (case mf => k_mem); (case bt => exact BindsTo.of_eq rfl); (case hcd => exact codeRec_keeps hcr hkb); (case loc => exact locs rfl); (case r1 => exact rfl); (case r2 => exact rfl); (case r3 => exact rfl); (case r4 => decide); (case room => (dsimp only; omega)); k_whole)
        · intro g2 L2 h6 kg2 kb2 kl2 F6 N6 lt6
          (try dsimp only); (try k_fold)
          (try dsimp only at N6 lt6)
          k_lt lt6
          have T2 := T1.keeps kg2
          have X2 := X1.keeps kg2
          have hlg2 := stays_list kg2 hlg
          have fin : ∀ (v : Value) (h' : Heap) (tk' : Nat), g2.StaysIn h' → News g2 L2 h' _ → (∃ t, v = .int r t) → Q v { s2 with heap := h', toks := tk' } := fun v h' tk' kk NN ee =>
            hret _ _ _ (KeepBut.end kb2 kk (fun p hp => (hled p hp).1) fun p hp _ => (NN p hp).1) ee
          unfold d2iI at hm
          by_cases hLR : Lo + 1 = R
          · rw [if_pos hLR] at hm
            split at hm
            case isFalse => cases hm
            rename_i hbd
            cases hm
            have hl1 := hi.length
            subst hLR
            k_steps
            rotate_left 1
            · exfalso; omega
            (rename Fr _ _ _ _ => F7); (rename News _ _ _ _ => N7)
            exact fin _ _ _ F7.keep N7 ⟨_, rfl⟩
          · rw [if_neg hLR] at hm
            dsimp only at hm
            split at hm
            case isFalse => cases hm
            rename_i hsh
            obtain ⟨hs1, hs2⟩ := hsh
            split at hm
            case h_1 => cases hm
            rename_i hi1 hm1
            split at hm
            case isFalse => cases hm
            rename_i hhi
            have hs5 : hi1.natAbs < 2 ^ 64 := by
              refine Nat.lt_of_le_of_lt (m := 100000) (by omega) (by decide)
            split at hm
            case h_1 => cases hm
            rename_i lo1 hm2
            cases hm
            k_steps
            · exfalso; omega
            (rename Fr _ _ _ _ => F7); (rename News _ _ _ _ => N7)
            have k7 := KeepBut.end (as := []) kb2 F7.keep (fun p hp => (hled p hp).1) fun p hp _ => (N7 p hp).1
            refine PM.use0 (ih _ _ _ _ _ _ hm1 fun b o e => k7 _ _ (fun q => nomatch q) (hkb _ _ e)) F7 N7 rfl (by dsimp [Around.deeper]; omega) (by dsimp [Around.deeper]; omega) ?_
            rintro r8 h8 tk8 F8 N8 kb8 ⟨t8, er8⟩
            subst er8
            have k8 := KeepBut.end (as := []) kb2 F8.keep (fun p hp => (hled p hp).1) fun p hp _ => (N8 p hp).1
            k_steps
            refine PM.use0 (ih _ _ _ _ _ _ hm2 fun b o e => k8 _ _ (fun q => nomatch q) (hkb _ _ e)) F8 N8 rfl (by dsimp [Around.deeper]; omega) (by dsimp [Around.deeper]; omega) ?_
            rintro r9 h9 tk9 F9 N9 kb9 ⟨t9, er9⟩
            subst er9
            k_steps
            exact fin _ _ _ F9.keep N9 ⟨_, rfl⟩
    refine PM.use0 (key _ _ _ _ _ _ _ hM fun b o e => e) F5 N5 rfl (by dsimp [Around.deeper]; omega) (by dsimp [Around.deeper]; omega) ?_
    rintro r10 h10 tk10 F10 N10 kb10 ⟨t10, er10⟩
    subst er10
    k_steps
    refine' hret _ _ _ (fun b o n e => F10.keep _ _ (kb b o n e)) ⟨⟨_, rfl⟩, .inr ⟨cc, (N10 (55, _) ?memE).1, codeRec_keeps hcr kb10⟩⟩
    case memE => k_mem
  · rename_i h5 oI F5 N5 dI hne
    rw [if_pos (List.eq_nil_of_length_eq_zero (by omega))] at hM
    cases hM
    refine' hret _ _ _ (fun b o n e => F5.keep _ _ (kb b o n e)) ⟨⟨_, rfl⟩, .inr ⟨cc, (N5 (55, _) ?memE).1, K4 _ F5.keep (N5 (dd, od) (by k_mem)).1⟩⟩
    case memE => k_mem
end
end Mine
end
end

section
local macro_rules
  | `(tactic| walk_at "eval Name") => `(tactic| (k_here; k_dflt (refine' ld ?k1 ?k2 ?_; (case k1 => k_asm); (case k2 => (repeat (first | with_reducible assumption | exact if_pos rfl | (refine Mine.look_skip (by decide) ?_)))); k_whole)))
local macro_rules
  | `(tactic| walk_at "exec While Compare cons nil") => `(tactic| refine Mine.Hold.of ?_)
  | `(tactic| walk_at "call builtin:list.reverse") => `(tactic| refine Mine.Hold.of ?_)

section
namespace Mine
noncomputable def bis (ns : List Int) (x : Int) (lo hi : Nat) : Nat :=
  if lo < hi then (if ns.getD ((lo + hi) / 2) 0 < x then bis ns x ((lo + hi) / 2 + 1) hi else bis ns x lo ((lo + hi) / 2)) else lo
termination_by hi - lo
decreasing_by all_goals omega
section
theorem bis_pc (c : Cx) (ns : List Int) (x : Int) (tx : Tok) (s : Shared) (v : Value) (hn : ns.length ≤ 1000) (hR : IntsAt s.heap v ns) : PC c 32 [v, .int x tx] 2 s (fun _ r => ∃ t, r = .int (bis ns x 0 ns.length : Nat) t) := by
  obtain ⟨a, vs, rfl, hl, hi⟩ := hR
  unfold PC Cx.At
  k_fill
  intro A Q E hA hd hu H hret
  obtain ⟨hdl, dp, fr, gd, un⟩ := A
  cases hA
  dsimp only at hd hu
  (k_dflt (refine' enter_plain ?H ?room ?k6 ?k7 ?k9 ?kB ?_ ?c2 ?c3 ?c4 ?c5; (case H => assumption); (case k6 => k_is); (case k7 => k_is); (case k9 => exact kp_binds (And.left (by assumption)) (fun _ => rfl)); (case c5 => decide); (case kB => exact locs rfl); (case c2 => exact rfl); (case c3 => exact rfl); (case c4 => exact rfl); (case room => (dsimp only; omega)); k_whole))
  intro g L' h1 kG F1 N1 X1 T1
  (try dsimp only); (try k_fold)
  have hlg := stays_list kG hl
  k_steps
  unfold Hold
  (rename Fr _ _ _ _ => F2); (rename News _ _ _ _ => N2)
  refine my_while (fun _ _ q => q.elim) (fun n s' => ∃ (lo hi : Nat) (t1 t2 : Tok) (h' : Heap) (tk' : Nat) (m : Str → Option Value), s' = { s with heap := h', toks := tk' } ∧ n = hi - lo ∧ lo ≤ hi ∧ hi ≤ ns.length ∧ bis ns x lo hi = bis ns x 0 ns.length ∧
    Fr g L' h' m ∧ m "lo" = some (.int lo t1) ∧ m "hi" = some (.int hi t2) ∧ m "a" = some (.ref a) ∧ m "x" = some (.int x tx)) ?_ ns.length ⟨0, ns.length, _, _, _, _, _, rfl, by omega, by omega, by omega, rfl, F2, rfl, rfl, rfl, rfl⟩
  clear F2 N2
  rintro n s' ⟨lo, hi', t1, t2, h', tk', m, rfl, hn', h1, h2, hb, F3, m1, m2, m3, m4⟩
  have N3 : News g L' h' [] := News.nil
  have e : ((lo : Int) + (hi' : Int)).fdiv 2 = (((lo + hi') / 2 : Nat) : Int) := by
    rw [Int.fdiv_eq_ediv_of_nonneg _ (by decide)]; omega
  k_steps
  · (rename Fr _ _ _ _ => F5); (rename _ < x => hx); (rename ((lo : Int) < (hi' : Int)) => hlt)
    rw [e, Int.toNat_natCast] at hx
    have e2 : ((lo : Int) + (hi' : Int)).fdiv 2 + 1 = (((lo + hi') / 2 + 1 : Nat) : Int) := by rw [e]; rfl
    refine ⟨hi' - ((lo + hi') / 2 + 1), by omega, (lo + hi') / 2 + 1, hi', _, t2, _, _, _, rfl, rfl, by omega, h2, ?_, F5, by rw [← e2]; exact if_pos rfl, ?_, ?_, ?_⟩
    · rw [← hb, bis.eq_def ns x lo hi', if_pos (by omega), if_pos hx]
    all_goals ((repeat (first | with_reducible assumption | exact if_pos rfl | (refine look_skip (by decide) ?_))))
  · (rename Fr _ _ _ _ => F5); (rename ¬ _ < x => hx); (rename ((lo : Int) < (hi' : Int)) => hlt)
    rw [e, Int.toNat_natCast] at hx
    refine ⟨(lo + hi') / 2 - lo, by omega, lo, (lo + hi') / 2, t1, _, _, _, _, rfl, rfl, by omega, by omega, ?_, F5, ?_, by rw [← e]; exact if_pos rfl, ?_, ?_⟩
    · rw [← hb, bis.eq_def ns x lo hi', if_pos (by omega), if_neg hx]
    all_goals ((repeat (first | with_reducible assumption | exact if_pos rfl | (refine look_skip (by decide) ?_))))
  · (rename ¬ ((lo : Int) < (hi' : Int)) => hlt)
    rw [bis.eq_def ns x lo hi', if_neg (by omega)] at hb
    exact hret _ [] _ _ (fun b o e => Fr.keep F3 _ _ (kG _ _ e)) (fun _ h => nomatch h) ⟨_, by rw [← hb]⟩
theorem bis4_pc (c : Cx) (ns : List Int) (x : Int) (tx t0 : Tok) (s : Shared) (v : Value) (hn : ns.length ≤ 1000) (hR : IntsAt s.heap v ns) : PC c 32 [v, .int x tx, .int 0 t0, .none] 2 s (fun _ r => ∃ t, r = .int (bis ns x 0 ns.length : Nat) t) := by
  obtain ⟨a, vs, rfl, hl, hi⟩ := hR
  unfold PC Cx.At
  k_fill
  intro A Q E hA hd hu H hret
  obtain ⟨hdl, dp, fr, gd, un⟩ := A
  cases hA
  dsimp only at hd hu
  (k_dflt (refine' enter_plain ?H ?room ?k6 ?k7 ?k9 ?kB ?_ ?c2 ?c3 ?c4 ?c5; (case H => assumption); (case k6 => k_is); (case k7 => k_is); (case k9 => exact kp_binds (And.left (by assumption)) (fun _ => rfl)); (case c5 => decide); (case kB => exact locs rfl); (case c2 => exact rfl); (case c3 => exact rfl); (case c4 => exact rfl); (case room => (dsimp only; omega)); k_whole))
  intro g L' h1 kG F1 N1 X1 T1
  (try dsimp only); (try k_fold)
  have hlg := stays_list kG hl
  k_steps
  unfold Hold
  (rename Fr _ _ _ _ => F2); (rename News _ _ _ _ => N2)
  refine my_while (fun _ _ q => q.elim) (fun n s' => ∃ (lo hi : Nat) (t1 t2 : Tok) (h' : Heap) (tk' : Nat) (m : Str → Option Value), s' = { s with heap := h', toks := tk' } ∧ n = hi - lo ∧ lo ≤ hi ∧ hi ≤ ns.length ∧ bis ns x lo hi = bis ns x 0 ns.length ∧
    Fr g L' h' m ∧ m "lo" = some (.int lo t1) ∧ m "hi" = some (.int hi t2) ∧ m "a" = some (.ref a) ∧ m "x" = some (.int x tx)) ?_ ns.length ⟨0, ns.length, _, _, _, _, _, rfl, by omega, by omega, by omega, rfl, F2, rfl, rfl, rfl, rfl⟩
  clear F2 N2
  rintro n s' ⟨lo, hi', t1, t2, h', tk', m, rfl, hn', h1, h2, hb, F3, m1, m2, m3, m4⟩
  have N3 : News g L' h' [] := News.nil
  have e : ((lo : Int) + (hi' : Int)).fdiv 2 = (((lo + hi') / 2 : Nat) : Int) := by
    rw [Int.fdiv_eq_ediv_of_nonneg _ (by decide)]; omega
  k_steps
  · (rename Fr _ _ _ _ => F5); (rename _ < x => hx); (rename ((lo : Int) < (hi' : Int)) => hlt)
    rw [e, Int.toNat_natCast] at hx
    have e2 : ((lo : Int) + (hi' : Int)).fdiv 2 + 1 = (((lo + hi') / 2 + 1 : Nat) : Int) := by rw [e]; rfl
    refine ⟨hi' - ((lo + hi') / 2 + 1), by omega, (lo + hi') / 2 + 1, hi', _, t2, _, _, _, rfl, rfl, by omega, h2, ?_, F5, by rw [← e2]; exact if_pos rfl, ?_, ?_, ?_⟩
    · rw [← hb, bis.eq_def ns x lo hi', if_pos (by omega), if_pos hx]
    all_goals ((repeat (first | with_reducible assumption | exact if_pos rfl | (refine look_skip (by decide) ?_))))
  · (rename Fr _ _ _ _ => F5); (rename ¬ _ < x => hx); (rename ((lo : Int) < (hi' : Int)) => hlt)
    rw [e, Int.toNat_natCast] at hx
    refine ⟨(lo + hi') / 2 - lo, by omega, lo, (lo + hi') / 2, t1, _, _, _, _, rfl, rfl, by omega, by omega, ?_, F5, ?_, by rw [← e]; exact if_pos rfl, ?_, ?_⟩
    · rw [← hb, bis.eq_def ns x lo hi', if_pos (by omega), if_neg hx]
    all_goals ((repeat (first | with_reducible assumption | exact if_pos rfl | (refine look_skip (by decide) ?_))))
  · (rename ¬ ((lo : Int) < (hi' : Int)) => hlt)
    rw [bis.eq_def ns x lo hi', if_neg (by omega)] at hb
    exact hret _ [] _ _ (fun b o e => Fr.keep F3 _ _ (kG _ _ e)) (fun _ h => nomatch h) ⟨_, by rw [← hb]⟩
end
end Mine
end

section
namespace Mine
-- the object is no code object: its second field is no name
noncomputable def NoCode (o : Obj) : Prop := ∀ vs t q, o.data = .fields vs → vs[1]? ≠ some (.str q t)
theorem NoCode.of_iter {o : Obj} {l : Addr} {k : Int} (h : o.data = .fields #[.ref l, rawInt k]) : NoCode o := fun vs t q e => by
  rw [h] at e; cases e
  show some (rawInt k) ≠ _
  unfold rawInt
  intro e; cases e
-- what a turn of a for loop must bring about
noncomputable def TurnFor (Q : Flow → Shared → Prop) (R : Shared → Prop) (f : Flow) (s : Shared) : Prop :=
  match f with
  | .next => Hold (R s)
  | .cont => Hold (R s)
  | .brk => Q .next s
  | .ret v => Q (.ret v) s
section
variable {prog : Program} {w : World} {A : Around} {E : Value → Shared → Prop} {s₂ : Shared} {env : Env} {h₀ : Heap} {x : Str} {body : List Stmt} {Q : Flow → Shared → Prop}
theorem my_iterVP {I : Addr} {fp : List Addr} {n : Nat} {P : Nat → Value → Prop} {St : Nat → Heap → Prop} {m : Str → Option Value} {news : List (Addr × Obj)} {K : List (Addr × Obj)}
    (W : Walks prog w A I fp [I] n P St) (hIL : I ≠ env.locals) (hI0 : h₀.get? I = none) (hSt : ∀ i h, St i h → ∃ o, h.get? I = some o ∧ NoCode o)
    (hfp : ∀ b ∈ fp, b = I ∨ ∃ lo, (b, lo) ∈ K) (hst : St 0 s₂.heap) (F : Fr h₀ env.locals s₂.heap m) (N : News h₀ env.locals s₂.heap news) (hnI : ∀ p ∈ news, p.1 ≠ I)
    (J : Nat → (Str → Option Value) → List (Addr × Obj) → Prop) (hJK : ∀ i m ns, J i m ns → ∀ p ∈ K, p ∈ ns) (h0 : J 0 m news)
    (turn : ∀ i v m₁ ns it h₁ tk₁, NoCode it → i < n → P i v → J i m₁ ns → (∀ p ∈ ns, p.1 ≠ I) → Fr h₀ env.locals h₁ (fun y => if y = x then some v else m₁ y) → News h₀ env.locals h₁ ((I, it) :: ns) →
      wpAny (model prog w) A (execs body env) (TurnFor Q fun s' => ∃ h' tk m' ns', s' = { s₂ with heap := h', toks := tk } ∧ Fr h₀ env.locals h' m' ∧ News h₀ env.locals h' ((I, it) :: ns') ∧ (∀ p ∈ ns', p.1 ≠ I) ∧ J (i + 1) m' ns') E { s₂ with heap := h₁, toks := tk₁ })
    (done : ∀ h' tk m' ns, Fr h₀ env.locals h' m' → News h₀ env.locals h' ns → J n m' ns → Q .next { s₂ with heap := h', toks := tk }) :
    LoopAtV prog w A h₀ env x body Q E (.ref I) s₂ := by
  have hKn : ∀ p ∈ K, p ∈ news := hJK _ _ _ h0
  have hLf : env.locals ∉ fp := fun q => by
    rcases hfp _ q with e | ⟨lo, hk⟩
    · exact hIL e.symm
    · exact (N _ (hKn _ hk)).2.1 rfl
  refine ⟨I, fp, [I], n, P, St, m, news, J, rfl, W, hLf, ?_, ?_, hst, F, N, h0, ?_, ?_⟩
  · intro b hb; rw [List.mem_singleton.mp hb]; exact hI0
  · intro p hp q; exact hnI p hp (List.mem_singleton.mp q)
  · rintro i v m₁ ns s₁ own ⟨h₁, tk₁, rfl⟩ hin hP hJ hof hown hget hall hst' F₁ N₁
    obtain ⟨it, hit, hnc⟩ := hSt _ _ hst'
    have hmI := hall I (W.sub I (List.mem_singleton.mpr rfl)) hI0 _ hit
    have hof' : ∀ p ∈ ns, p.1 ≠ I := fun p hp q => hof p hp (List.mem_singleton.mpr q)
    have N₂ : News h₀ env.locals h₁ ((I, it) :: ns) := fun p hp => by
      rcases List.mem_cons.mp hp with rfl | hp
      · exact N₁ _ (List.mem_append_left _ hmI)
      · exact N₁ _ (List.mem_append_right _ hp)
    refine wpAny_mono (turn i v m₁ ns it h₁ tk₁ hnc hin hP hJ hof' F₁ N₂) (fun f s₃ p => ?_) fun _ _ e => e
    have fin : (∃ h' tk m' ns', s₃ = { s₂ with heap := h', toks := tk } ∧ Fr h₀ env.locals h' m' ∧ News h₀ env.locals h' ((I, it) :: ns') ∧ (∀ p ∈ ns', p.1 ≠ I) ∧ J (i + 1) m' ns') →
        LoopStepU h₀ env.locals [I] own (J (i + 1)) { s₂ with heap := h₁, toks := tk₁ } .next s₃ := by
      rintro ⟨h', tk, m', ns', e, F', N', ho, hJ'⟩
      refine ⟨rfl, h', tk, m', ns', e, F', fun p hp => ?_, fun p hp hI => ho p hp (List.mem_singleton.mp hI), hJ'⟩
      rcases List.mem_append.mp hp with hp | hp
      · have h2 : h₁.get? p.1 = some p.2 := hget p hp
        rcases hfp _ (hown p hp) with h1 | ⟨lo, h1⟩
        · have h3 : p = (I, it) := by
            rw [h1] at h2
            exact Prod.ext h1 (Option.some.inj (h2.symm.trans hit))
          rw [h3]; exact N' _ (.head _)
        · have h4 := (N₂ _ (.tail _ (hJK _ _ _ hJ _ h1))).1
          have h3 : p = (p.1, lo) := Prod.ext rfl (Option.some.inj (h2.symm.trans h4))
          rw [h3]; exact N' _ (.tail _ (hJK _ _ _ hJ' _ h1))
      · exact N' _ (.tail _ hp)
    cases f with
    | ret v => exact .ret p
    | brk => exact .brk p
    | next => exact .next (fin p)
    | cont => exact .cont (fin p)
  · intro h' tk m' ns F' N' _ hJ
    exact done h' tk m' ns F' N' hJ
theorem my_iter_listP {m : Str → Option Value} {news : List (Addr × Obj)} {l : Addr} {vs : List Value} {nn : Nat} {s : Shared} (hh : A.handled = none)
    (F : Fr h₀ env.locals s.heap m) (N : News h₀ env.locals s.heap news) (hm : (l, listOf vs.toArray nn) ∈ news)
    (h : ∀ I it h1, Fr h₀ env.locals h1 m → News h₀ env.locals h1 ((I, it) :: news) → (∀ p ∈ news, p.1 < I) → ∃ J : Nat → (Str → Option Value) → List (Addr × Obj) → Prop,
      (∀ i m ns, J i m ns → (l, listOf vs.toArray nn) ∈ ns) ∧ J 0 m news ∧
      (∀ i v m₁ ns it h₁ tk₁, NoCode it → vs[i]? = some v → J i m₁ ns → (∀ p ∈ ns, p.1 ≠ I) → Fr h₀ env.locals h₁ (fun y => if y = x then some v else m₁ y) → News h₀ env.locals h₁ ((I, it) :: ns) →
        wpAny (model prog w) A (execs body env) (TurnFor Q fun s' => ∃ h' tk m' ns', s' = { s with heap := h', toks := tk } ∧ Fr h₀ env.locals h' m' ∧ News h₀ env.locals h' ((I, it) :: ns') ∧ (∀ p ∈ ns', p.1 ≠ I) ∧ J (i + 1) m' ns') E { s with heap := h₁, toks := tk₁ }) ∧
      (∀ h' tk m' ns, Fr h₀ env.locals h' m' → News h₀ env.locals h' ns → J vs.length m' ns → Q .next { s with heap := h', toks := tk })) :
    wpAny (model prog w) A (pyIter (.ref l)) (fun it s₂ => LoopAtV prog w A h₀ env x body Q E it s₂) E s := by
  have hl : s.heap.IsList l vs.toArray := N.isList hm
  refine wpAny_pyIter_list hl ?_
  have kp : s.heap.StaysIn (s.heap.push { cls := .type "list_iterator", data := .fields #[.ref l, .int 0 0] }) := fun b o e => Heap.get?_push_of_some _ e
  have gI := Heap.get?_push_size (o := ({ cls := .type "list_iterator", data := .fields #[.ref l, .int 0 0] } : Obj)) s.heap rfl
  generalize hH : s.heap.push { cls := .type "list_iterator", data := .fields #[.ref l, .int 0 0] } = H at kp gI ⊢
  have hlt : ∀ p ∈ news, p.1 < s.heap.objs.size := fun p hp => Heap.lt_size (N p hp).1
  have hL : env.locals < s.heap.objs.size := F.ns.lt
  have nI : h₀.get? s.heap.objs.size = none := Heap.get?_none_of_le (Nat.le_of_lt (Nat.lt_of_le_of_lt F.above hL))
  obtain ⟨J, hJK, h0, turn, done⟩ := h s.heap.objs.size _ H (F.keeps kp) (fun p hp => by
    rcases List.mem_cons.mp hp with rfl | hp
    · exact ⟨gI, Nat.ne_of_gt hL, nI⟩
    · exact (N.grown kp) p hp) hlt
  refine my_iterVP (K := [(l, listOf vs.toArray nn)]) (Walks.list hh s.heap.objs.size l (Nat.ne_of_lt (hlt _ hm)) vs.toArray) (Nat.ne_of_gt hL) nI (fun i h st => let ⟨o, ho, _, hd⟩ := st.1; ⟨o, ho, NoCode.of_iter hd⟩) ?_ ⟨⟨_, gI, rfl, rfl⟩, stays_list kp hl⟩ (F.keeps kp) (N.grown kp) (fun p hp => Nat.ne_of_lt (hlt p hp)) J ?_ h0 ?_ ?_
  · intro b hb
    rcases List.mem_cons.mp hb with rfl | hb
    · exact .inl rfl
    · rw [List.mem_singleton.mp hb]; exact .inr ⟨_, .head _⟩
  · intro i m ns hJ p hp
    rw [List.mem_singleton.mp hp]; exact hJK _ _ _ hJ
  · intro i v m₁ ns it h₁ tk₁ hnc hin hP hJ a b c
    exact turn i v m₁ ns it h₁ tk₁ hnc (by simpa using hP) hJ a b c
  · intro h' tk m' ns a b c
    exact done h' tk m' ns a b (by simpa using c)
-- for x in a list of the ledger
theorem my_iter_list {m : Str → Option Value} {news : List (Addr × Obj)} {l : Addr} {vs : List Value} {nn : Nat} {s : Shared} (hh : A.handled = none)
    (F : Fr h₀ env.locals s.heap m) (N : News h₀ env.locals s.heap news) (hm : (l, listOf vs.toArray nn) ∈ news)
    (h : ∀ I it h1, Fr h₀ env.locals h1 m → News h₀ env.locals h1 ((I, it) :: news) → (∀ p ∈ news, p.1 < I) → ∃ J : Nat → (Str → Option Value) → List (Addr × Obj) → Prop,
      (∀ i m ns, J i m ns → (l, listOf vs.toArray nn) ∈ ns) ∧ J 0 m news ∧
      (∀ i v m₁ ns it h₁ tk₁, vs[i]? = some v → J i m₁ ns → (∀ p ∈ ns, p.1 ≠ I) → Fr h₀ env.locals h₁ (fun y => if y = x then some v else m₁ y) → News h₀ env.locals h₁ ((I, it) :: ns) →
        wpAny (model prog w) A (execs body env) (TurnFor Q fun s' => ∃ h' tk m' ns', s' = { s with heap := h', toks := tk } ∧ Fr h₀ env.locals h' m' ∧ News h₀ env.locals h' ((I, it) :: ns') ∧ (∀ p ∈ ns', p.1 ≠ I) ∧ J (i + 1) m' ns') E { s with heap := h₁, toks := tk₁ }) ∧
      (∀ h' tk m' ns, Fr h₀ env.locals h' m' → News h₀ env.locals h' ns → J vs.length m' ns → Q .next { s with heap := h', toks := tk })) :
    wpAny (model prog w) A (pyIter (.ref l)) (fun it s₂ => LoopAtV prog w A h₀ env x body Q E it s₂) E s :=
  my_iter_listP hh F N hm fun I it h1 a b c => let ⟨J, p, q, r, t⟩ := h I it h1 a b c; ⟨J, p, q, fun i v m₁ ns it h₁ tk₁ _ => r i v m₁ ns it h₁ tk₁, t⟩
-- for x in reversed(a list of the ledger)
theorem my_iter_rev {m : Str → Option Value} {news : List (Addr × Obj)} {l I : Addr} {vs : List Value} {nn : Nat} {s : Shared} (hh : A.handled = none)
    (F : Fr h₀ env.locals s.heap m) (N : News h₀ env.locals s.heap ((I, revObj l ((vs.length : Int) - 1)) :: news)) (hm : (l, listOf vs.toArray nn) ∈ news) (hnI : ∀ p ∈ news, p.1 ≠ I)
    (J : Nat → (Str → Option Value) → List (Addr × Obj) → Prop) (hJK : ∀ i m ns, J i m ns → (l, listOf vs.toArray nn) ∈ ns) (h0 : J 0 m news)
    (turn : ∀ i v m₁ ns it h₁ tk₁, vs.reverse[i]? = some v → J i m₁ ns → (∀ p ∈ ns, p.1 ≠ I) → Fr h₀ env.locals h₁ (fun y => if y = x then some v else m₁ y) → News h₀ env.locals h₁ ((I, it) :: ns) →
        wpAny (model prog w) A (execs body env) (TurnFor Q fun s' => ∃ h' tk m' ns', s' = { s with heap := h', toks := tk } ∧ Fr h₀ env.locals h' m' ∧ News h₀ env.locals h' ((I, it) :: ns') ∧ (∀ p ∈ ns', p.1 ≠ I) ∧ J (i + 1) m' ns') E { s with heap := h₁, toks := tk₁ })
    (done : ∀ h' tk m' ns, Fr h₀ env.locals h' m' → News h₀ env.locals h' ns → J vs.length m' ns → Q .next { s with heap := h', toks := tk }) :
    wpAny (model prog w) A (pyIter (.ref I)) (fun it s₂ => LoopAtV prog w A h₀ env x body Q E it s₂) E s := by
  have hIx := N _ (.head _)
  have N' : News h₀ env.locals s.heap news := fun p hp => N p (.tail _ hp)
  have hl : s.heap.IsList l vs.toArray := N'.isList hm
  have hlen : vs.toArray.size = vs.length := by simp
  refine wpAny_pyIter_revIter (i := (vs.length : Int) - 1) (l := l) ⟨_, hIx.1, rfl, rfl⟩ ?_
  refine my_iterVP (K := [(l, listOf vs.toArray nn)]) (Walks.listRev hh I l (hnI _ hm) vs.toArray) hIx.2.1 hIx.2.2 (fun i h st => let ⟨o, ho, _, hd⟩ := st.2.1; ⟨o, ho, NoCode.of_iter hd⟩) ?_ ⟨Nat.zero_le _, ⟨_, hIx.1, rfl, ?_⟩, hl⟩ F N' hnI J ?_ h0 ?_ ?_
  · intro b hb
    rcases List.mem_cons.mp hb with rfl | hb
    · exact .inl rfl
    · rw [List.mem_singleton.mp hb]; exact .inr ⟨_, .head _⟩
  · show Data.fields #[.ref l, rawInt ((vs.length : Int) - 1)] = _
    rw [hlen]; simp
  · intro i m ns hJ p hp
    rw [List.mem_singleton.mp hp]; exact hJK _ _ _ hJ
  · intro i v m₁ ns it h₁ tk₁ _ hin hP hJ a b c
    rw [hlen] at hin hP
    refine turn i v m₁ ns it h₁ tk₁ ?_ hJ a b c
    rw [List.getElem?_reverse hin]
    simpa using hP
  · intro h' tk m' ns a b c
    exact done h' tk m' ns a b (by rw [hlen] at c; exact c)
end
end Mine
end

section
namespace Mine
section
theorem div2_pc (c : Cx) (a b n : Int) (t1 t2 t3 : Tok) (s : Shared) (hb : b ≠ 0) (hbs : b.natAbs < 1073741824) (hbit : (Builtin.Int.intBits a : Int) - n ≤ 4000) :
    PC c 39 [.int a t1, .int b t2, .int n t3] 2 s (fun tl r => ∃ l u1 u2 nn, r = .ref l ∧ (l, ({ cls := .type "tuple", data := .seq #[.int (a.fdiv b) u1, .int (a.fmod b) u2] nn } : Obj)) ∈ tl) := by
  unfold PC Cx.At
  k_fill
  intro A Q E hA hd hu H hret
  obtain ⟨hdl, dp, fr, gd, un⟩ := A
  cases hA
  dsimp only at hd hu
  (k_dflt (refine' enter_plain ?H ?room ?k6 ?k7 ?k9 ?kB ?_ ?c2 ?c3 ?c4 ?c5; (case H => assumption); (case k6 => k_is); (case k7 => k_is); (case k9 => exact BindsTo.of_eq rfl); (case c5 => decide); (case kB => exact locs rfl); (case c2 => exact rfl); (case c3 => exact rfl); (case c4 => exact rfl); (case room => (dsimp only; omega)); k_whole))
  intro g L' h1 kG F1 N1 X1 T1
  (try dsimp only); (try k_fold)
  k_steps
  (rename Fr _ _ _ _ => F2); (rename News _ _ _ _ => N2)
  exact hret _ _ _ _ (fun b o e => Fr.keep F2 _ _ (kG _ _ e)) (fresh_of_news F2 N2 kG) ⟨_, _, _, _, rfl, .head _⟩
end
noncomputable def dmLoop (b n : Int) : List Int → Int → List Int → Option (List Int × Int)
  | [], r, qs => some (qs, r)
  | d :: ds, r, qs =>
    if 0 ≤ r ∧ r ≤ 100000 ∧ (Builtin.Int.intBits (r * 2 ^ n.toNat + d) : Int) - n ≤ 4000 then
      dmLoop b n ds ((r * 2 ^ n.toNat + d).fmod b) (qs ++ [(r * 2 ^ n.toNat + d).fdiv b])
    else none
noncomputable def dmM (a b : Int) : Option (Int × Int) :=
  let n : Int := Builtin.Int.intBits b
  if b ≠ 0 ∧ b.natAbs < 1073741824 ∧ 0 < n ∧ n ≤ 64 then
    match i2dM a n with
    | none => none
    | some ds =>
      if ds.length ≤ 100 then
        match dmLoop b n ds.reverse 0 [] with
        | none => none
        | some (qs, r) =>
          match d2iM qs.reverse n with
          | none => none
          | some q => some (q, r)
      else none
  else none
theorem TabOk.ne {h : Heap} {P a : Addr} {l c : Nat} {q q' : Str} {vs : Array Value} {t : Tok} {oc : Obj} (x : TabOk h P l c q) (ho : h.get? a = some oc) (hd : oc.data = .fields vs) (hv : vs[1]? = some (.str q' t)) : a ≠ P := fun e => by
  rw [e] at ho
  rcases x with e' | ⟨_, e', _⟩
  · rw [e'] at ho; cases ho; cases hd; cases hv
  · rw [e'] at ho; cases ho; cases hd; cases hv
-- what keeps a table's state through a walk: its object and one more
theorem tab_ext {g h : Heap} {L P P' d : Addr} {m : Str → Option Value} {l c l' c' : Nat} {q q' : Str} {od : Obj} (F : Fr g L h m) (x : TabOk h P l c q) (y : TabOk h P' l' c' q') (hd : h.get? d = some od) (nd : g.get? d = none) (dL : d ≠ L) (d1 : @Ne Nat d P) (d2 : @Ne Nat d P') :
    ∃ ps cc occ, h.get? P = some (tabObj ps) ∧ h.get? cc = some occ ∧ g.get? cc = none ∧ @Ne Nat cc P ∧ @Ne Nat cc P' ∧ cc ≠ L ∧ ∀ h', g.StaysIn h' → h'.get? P = some (tabObj ps) → h'.get? cc = some occ → TabOk h' P l c q := by
  rcases id x with e | ⟨a, e, b, oc, vs, t, e1, ho, hdd, hv⟩
  · exact ⟨_, d, od, e, hd, nd, d1, d2, dL, fun h' _ e' _ => .inl e'⟩
  · cases e1
    cases hg : g.get? a with
    | none =>
      refine ⟨_, a, oc, e, ho, hg, x.ne ho hdd hv, y.ne ho hdd hv, fun q => ?_, fun h' _ e' e2 => .inr ⟨a, e', a, oc, vs, t, rfl, e2, hdd, hv⟩⟩
      obtain ⟨oL, _, _, hL, hdL, _⟩ := F.ns
      rw [q, hL] at ho; cases ho; rw [hdL] at hdd; cases hdd
    | some o =>
      have := F.keep _ _ hg
      rw [ho] at this; cases this
      exact ⟨_, d, od, e, hd, nd, d1, d2, dL, fun h' k e' _ => .inr ⟨a, e', a, oc, vs, t, rfl, k _ _ hg, hdd, hv⟩⟩
theorem news_more {g h : Heap} {L a : Addr} {o : Obj} {news : List (Addr × Obj)} (N : News g L h news) (e : h.get? a = some o) (n : a ≠ L) (z : g.get? a = none) : News g L h ((a, o) :: news) := fun p hp => by
  rcases List.mem_cons.mp hp with rfl | hp
  · exact ⟨e, n, z⟩
  · exact N p hp
theorem none_but {as : List Addr} {h g : Heap} {D : Addr} (kb : KeepBut as h g) (n : g.get? D = none) (hn : ∀ a ∈ as, D ≠ a) : h.get? D = none := by
  cases q : h.get? D with
  | none => rfl
  | some o =>
    have := kb D o (fun m => hn _ m rfl) q
    rw [n] at this; cases this
theorem apart_nil {D : Addr} : ∀ p ∈ ([] : List (Addr × Obj)), p.1 ≠ D := fun _ h => nomatch h
theorem apart_cons {a D : Nat} {o : Obj} {l : List (Addr × Obj)} (h : a ≠ D) (t : ∀ p ∈ l, p.1 ≠ D) : ∀ p ∈ ((a, o) : Addr × Obj) :: l, p.1 ≠ D := fun p hp => by
  rcases List.mem_cons.mp hp with rfl | hp
  · exact h
  · exact t p hp
abbrev Tab48 (h : Heap) : Prop := TabOk h 48 59 4 (Str.ofString "_int2digits.<locals>.inner")
abbrev Tab55 (h : Heap) : Prop := TabOk h 55 74 4 (Str.ofString "_digits2int.<locals>.inner")
theorem TabOk.ex {h : Heap} {P : Addr} {l c : Nat} {q : Str} (x : TabOk h P l c q) : ∃ ps, h.get? P = some (tabObj ps) := by
  rcases x with e | ⟨c', e, _⟩
  · exact ⟨_, e⟩
  · exact ⟨_, e⟩
theorem TabOk.but {h h' : Heap} {P P' : Addr} {l c l' c' : Nat} {q q' : Str} (x : TabOk h P l c q) (y : TabOk h P' l' c' q') (k : KeepBut [P'] h h') (hne : P ≠ P') : TabOk h' P l c q := by
  have hP : P ∉ [P'] := fun q => hne (List.mem_singleton.mp q)
  rcases x with e | ⟨a, e, hc⟩
  · exact .inl (k _ _ hP e)
  · refine .inr ⟨a, k _ _ hP e, ?_⟩
    rcases y with e' | ⟨_, e', _⟩
    · obtain ⟨a, oc, vs, t, e1, ho, hd, hv⟩ := hc
      refine ⟨a, oc, vs, t, e1, k _ _ (fun q => ?_) ho, hd, hv⟩
      rw [List.mem_singleton.mp q, e'] at ho; cases ho; cases hd; cases hv
    · exact codeRec_tab hc k e'
theorem TabOk.stays {h h' : Heap} {P : Addr} {l c : Nat} {q : Str} (x : TabOk h P l c q) (k : h.StaysIn h') : TabOk h' P l c q := by
  rcases x with e | ⟨a, e, hc⟩
  · exact .inl (k _ _ e)
  · exact .inr ⟨a, k _ _ e, codeRec_keeps hc k⟩
section
theorem dmp_pm (c : Cx) (a b : Int) (t1 t2 : Tok) (q r : Int) (s : Shared) (hM : dmM a b = some (q, r)) (hat : c.At2 (hideAll s.heap [55, 48])) (ht : Tab48 s.heap) (ht2 : Tab55 s.heap) :
    PM c 67 [.int a t1, .int b t2] 60 [55, 48] s (fun h' v => Tab48 h' ∧ Tab55 h' ∧ ∃ l u1 u2, v = .ref l ∧ s.heap.get? l = none ∧ IsTup h' l #[.int q u1, .int r u2]) := by
  obtain ⟨p48, e48⟩ := ht.ex
  obtain ⟨p55, e55⟩ := ht2.ex
  unfold dmM at hM
  dsimp only at hM
  split at hM
  case isFalse => cases hM
  rename_i hb
  obtain ⟨hb1, hb2, hb3, hb4⟩ := hb
  split at hM
  case h_1 => cases hM
  rename_i ds hds
  split at hM
  case isFalse => cases hM
  rename_i hdl
  split at hM
  case h_1 => cases hM
  rename_i qs r' hloop
  split at hM
  case h_1 => cases hM
  rename_i q' hq
  cases hM
  have X0 := hat.X
  have k0 : (hideAll s.heap [55, 48]).StaysIn s.heap := fun b o e => of_hideAll _ e
  unfold PM
  revert X0; k_fill; intro X0
  intro A Q E hA hd hu hret
  obtain ⟨hdl, dp, fr, gd, un⟩ := A
  cases hA
  dsimp only at hd hu
  k_dflt (refine' enter_fn (led := [(55, tabObj p55), (48, tabObj p48)]) k0 ?led hat.T.nolimit ?room (k0 _ _ (X0 _ _ ?fo)) (codeRec_of (X0.keeps k0) ?cd) ?bt ?kd ?_ ?r1 ?r2 ?r3 ?r4; (case fo => k_is); (case cd => k_is); (case bt => exact BindsTo.of_eq rfl); (case kd => exact locs rfl); (case r1 => exact rfl); (case r2 => exact rfl); (case r3 => exact rfl); (case r4 => decide); (case room => (dsimp only; omega)); k_whole)
  case led =>
    intro p hp
    rcases List.mem_cons.mp hp with rfl | hp
    · exact ⟨e55, hideAll_none _ (.head _)⟩
    · rw [List.mem_singleton.mp hp]; exact ⟨e48, hideAll_none _ (.tail _ (.head _))⟩
  intro g L' h1 kg kb kl F1 N1 lt1
  (try dsimp only); (try k_fold)
  (try dsimp only [List.map_cons, List.map_nil] at kb)
  have A1 := hat.keeps kg
  have X1 := A1.X
  have T1 := A1.T
  have C1 := A1.c1
  have C2 := A1.c2
  k_lt lt1
  k_steps
  (rename Fr _ _ _ _ => F2); (rename News _ _ _ _ => N2)
  have hled : ∀ p ∈ [((55 : Addr), tabObj p55), (48, tabObj p48)], s.heap.get? p.1 = some p.2 := fun p hp => by
    rcases List.mem_cons.mp hp with rfl | hp
    · exact e55
    · rw [List.mem_singleton.mp hp]; exact e48
  have k2 := fun b o => KeepBut.end (as := []) kb F2.keep hled (fun p hp _ => (N2 p hp).1) b o (fun q => nomatch q)
  refine' PM.useD (i2d_pm c a _ t1 _ ds _ default hds ⟨g, A1, F2.keep, (N2 (48, _) ?memA).2.2⟩ (ht.stays k2)) F2 N2 ?updA rfl (by dsimp [Around.deeper]; omega) (by dsimp [Around.deeper]; omega) ?_
  case memA => k_mem
  case updA => k_updF
  rintro r3 h3 tk3 F3 NN3 kb3 ⟨ht3, d, us, nn, er3, hdn, hd3, hi3⟩
  subst er3
  have ndg := none_of F2.keep hdn
  have dL' : d ≠ L' := fun q => by
    obtain ⟨oL, _, _, hL, _⟩ := F2.ns
    rw [q, hL] at hdn; cases hdn
  have d48 : @Ne Nat d 48 := Ne.symm (ne_new (N2 (48, _) (by k_mem)).1 hdn)
  have d55 : @Ne Nat d 55 := Ne.symm (ne_new (N2 (55, _) (by k_mem)).1 hdn)
  have ht23 : Tab55 h3 := (ht2.stays k2).but (ht.stays k2) kb3 (by decide)
  obtain ⟨q48, cc, occ, e48', hcc, ngc, c48, c55, cL, tabA⟩ := tab_ext F3 ht3 ht23 hd3 ndg dL' d48 d55
  have N3 := news_more (news_new F2 (NN3 _ e48') hdn hd3) hcc cL ngc
  (try dsimp only at N3)
  have hl3 := hi3.length
  k_steps
  rename_i lq hx1 lx1 hx2 DI hx3 F4 N4 lx2
  refine' my_iter_rev rfl F4 N4 ?memB ?hnI (fun i m ns' => ∃ (ws : List Value) (kk : Nat) (r0 : Int) (tr tn : Tok) (qs0 : List Int), ns' = [(lq, listOf ws.toArray kk), (cc, occ), (d, listOf us.toArray nn), ((55 : Addr), tabObj p55), ((48 : Addr), tabObj q48)] ∧
      m "n" = some (.int (Builtin.Int.intBits b) tn) ∧ m "b" = some (.int b t2) ∧ m "r" = some (.int r0 tr) ∧ m "q_digits" = some (.ref lq) ∧ IntsAre ws qs0 ∧ qs0.length = i ∧ dmLoop b (Builtin.Int.intBits b) (ds.reverse.drop i) r0 qs0 = some (qs, r)) ?hJK ?h0 ?turn ?done
  case memB => k_mem
  case hnI => ((repeat (first | exact apart_nil | (refine apart_cons (by omega) ?_))))
  case hJK => rintro i m ns' ⟨ws, kk, r0, tr, tn, qs0, rfl, _⟩; k_mem
  case h0 => exact ⟨[], 0, 0, _, _, [], rfl, rfl, rfl, rfl, rfl, .nil, rfl, hloop⟩
  case turn =>
    clear N4 F4
    rintro i v m ns' it h4 tk4 hv ⟨ws, kk, r0, tr, tn, qs0, rfl, m1, m2, m3, m4, hw, hqi, hdm⟩ hoff F5 N5
    obtain ⟨dg, tdg, rfl, hdg⟩ := IntsAre.at hi3.reverse i v hv
    have hlt : i < ds.reverse.length := by
      false_or_by_contra
      rw [List.getElem?_eq_none (by omega)] at hdg; cases hdg
    have hdr : ds.reverse.drop i = dg :: ds.reverse.drop (i + 1) := by
      rw [List.drop_eq_getElem_cons hlt]
      congr 1
      exact Option.some.inj ((List.getElem?_eq_getElem hlt).symm.trans hdg)
    rw [hdr] at hdm
    unfold dmLoop at hdm
    split at hdm
    case isFalse => cases hdm
    rename_i hbd
    obtain ⟨hr1, hr2, hbit⟩ := hbd
    have hrn : r0.natAbs < 2 ^ 64 := Nat.lt_of_le_of_lt (m := 100000) (by omega) (by decide)
    have hlw := hw.length
    have hlr : ds.reverse.length = ds.length := List.length_reverse
    k_steps
    refine PC.use2 (div2_pc c _ b _ _ _ _ _ hb1 hb2 hbit) F5 N5 X1 T1 rfl (by dsimp [Around.deeper]; omega) (by dsimp [Around.deeper]; omega) ?_
    rintro r6 tl6 h6 tk6 F6 N6 NT6 kb6 ne6 ⟨lt, u1, u2, nt, er6, hm6⟩
    subst er6
    have N7 : News g L' h6 [(lt, _), (DI, it), (lq, listOf ws.toArray kk), (cc, occ), (d, listOf us.toArray nn), ((55 : Addr), tabObj p55), ((48 : Addr), tabObj q48)] := fun p hp => by
      rcases List.mem_cons.mp hp with rfl | hp
      · exact NT6 _ hm6
      · exact N6 _ hp
    clear N6 NT6
    have nlq : @Ne Nat lq lt := ne6 (lq, _) (by k_mem) _ hm6
    k_steps
    (rename Fr _ _ _ _ => F8); (rename News _ _ _ _ => N8)
    refine ⟨_, _, _, _, rfl, F8, fun p hp => N8 p (.tail _ hp), ?_, ws ++ [.int ((r0 * 2 ^ (((Builtin.Int.intBits b : Nat) : Int)).toNat + dg).fdiv b) u1], kk + 1, _, u2, tn, _, ?_, ?_, ?_, ?_, ?_, ?_, ?_, hdm⟩
    · ((repeat (first | exact apart_nil | (refine apart_cons (by omega) ?_))))
    · rw [show (ws ++ [Value.int ((r0 * 2 ^ (((Builtin.Int.intBits b : Nat) : Int)).toNat + dg).fdiv b) u1]).toArray = ws.toArray.push (.int ((r0 * 2 ^ (((Builtin.Int.intBits b : Nat) : Int)).toNat + dg).fdiv b) u1) by simp]
    · ((repeat (first | with_reducible assumption | exact if_pos rfl | (refine look_skip (by decide) ?_))))
    · ((repeat (first | with_reducible assumption | exact if_pos rfl | (refine look_skip (by decide) ?_))))
    · ((repeat (first | with_reducible assumption | exact if_pos rfl | (refine look_skip (by decide) ?_))))
    · ((repeat (first | with_reducible assumption | exact if_pos rfl | (refine look_skip (by decide) ?_))))
    · exact hw.append (.cons _ _ .nil)
    · rw [List.length_append, hqi]; rfl
  case done =>
    clear N4 F4
    rintro h4 tk4 m ns' F5 N5 ⟨ws, kk, r0, tr, tn, qs0, rfl, m1, m2, m3, m4, hw, hqi, hdm⟩
    have hap : ∀ p ∈ [(cc, occ), (d, listOf us.toArray nn), ((55 : Addr), tabObj p55), ((48 : Addr), tabObj q48)], p.1 ≠ lq := by ((repeat (first | exact apart_nil | (refine apart_cons (by omega) ?_))))
    have hlw := hw.length
    k_steps
    (rename Fr _ _ _ _ => F6); (rename News _ _ _ _ => N6)
    unfold Hold
    refine reverse_head_ints (its := ws.toArray) F6 N6 hap hw ?_ (Nat.le_trans (m := 100) (by omega) (by decide))
    intro h7 F7 N7 hw7
    k_steps
    have hdz : ds.reverse.drop us.length = [] := List.drop_of_length_le (by rw [List.length_reverse]; omega)
    rw [hdz] at hdm
    cases hdm
    have kC : KeepBut [48] s.heap h7 := KeepBut.end kb F7.keep hled fun p hp hn => by
      rcases List.mem_cons.mp hp with rfl | hp
      · exact (N7 _ (by k_mem)).1
      · rw [List.mem_singleton.mp hp] at hn; exact absurd (.head _) hn
    refine' PM.useD (d2i_pm c _ tn _ qs.reverse q _ hq ⟨g, A1, F7.keep, (N7 (55, _) ?memC).2.2⟩ (ht2.but ht kC (by decide)) ⟨lq, _, rfl, N7.isList (.head _), hw7⟩) F7 N7 ?updC rfl (by dsimp [Around.deeper]; omega) (by dsimp [Around.deeper]; omega) ?_
    case memC => k_mem
    case updC => k_updF
    rintro r10 h10 tk10 F10 NN10 kb10 ⟨⟨tq, er10⟩, ht10⟩
    subst er10
    obtain ⟨q55, e55'⟩ := ht10.ex
    have N10' := NN10 _ e55'
    (try dsimp only at N10')
    have ht10b := tabA h10 F10.keep (N10' (48, _) (by k_mem)).1 (N10' (cc, occ) (by k_mem)).1
    obtain ⟨q55, cc2, occ2, e55', hcc2, ngc2, c482, c552, cL2, tabB⟩ := tab_ext F10 ht10 ht10b (N10' (d, _) (by k_mem)).1 ndg dL' d55 d48
    have N10 := news_more (NN10 _ e55') hcc2 cL2 ngc2
    clear N10'
    (try dsimp only at N10)
    k_steps
    (rename Fr _ _ _ _ => F12); (rename News _ _ _ _ => N12)
    have nD := N12 _ (.head _)
    refine' hret _ _ _ (fun b o n e => F12.keep _ _ (kb b o n e)) ⟨tabA _ F12.keep (N12 (48, _) ?memE).1 (N12 (cc, occ) ?memF).1, tabB _ F12.keep (N12 (55, _) ?memG).1 (N12 (cc2, occ2) ?memH).1, _, _, _, rfl, ?newD, ⟨_, nD.1, rfl, _, rfl⟩⟩
    case memE => k_mem
    case memF => k_mem
    case memG => k_mem
    case memH => k_mem
    case newD => exact none_but kb nD.2.2 (fun a ha => by
      rcases List.mem_cons.mp ha with rfl | ha
      · exact Nat.ne_of_gt (show @LT.lt Nat instLTNat 55 _ by omega)
      · rw [List.mem_singleton.mp ha]; exact Nat.ne_of_gt (show @LT.lt Nat instLTNat 48 _ by omega))
end
end Mine
end
end

section

section
namespace Mine
noncomputable def dmOk (a b : Nat) : Bool := dmM a b == some (((a / b : Nat) : Int), ((a % b : Nat) : Int))
theorem dm_all : ([1, 2, 3, 4, 5, 6, 8, 9, 10, 12, 15, 16, 18, 20, 24, 30, 36, 40, 45, 48, 60, 72, 80, 90, 120, 144, 180, 240, 360, 720].all fun a => (List.range 6).all fun b => dmOk a (b + 1)) = true := by decide +kernel
theorem dm_div : (List.range 721).all (fun a => Nat.ble 1 (720 % a) || Nat.beq a 0 || [1, 2, 3, 4, 5, 6, 8, 9, 10, 12, 15, 16, 18, 20, 24, 30, 36, 40, 45, 48, 60, 72, 80, 90, 120, 144, 180, 240, 360, 720].contains a) = true := by decide +kernel
theorem dm_ok {a b : Nat} (ha : a ∣ 720) (hb : 0 < b) (hb2 : b ≤ 6) : dmM a b = some (((a / b : Nat) : Int), ((a % b : Nat) : Int)) := by
  have hle : a ≤ 720 := Nat.le_of_dvd (by decide) ha
  have h0 := List.all_eq_true.mp dm_div a (List.mem_range.mpr (by omega))
  have h1 : a ∈ [1, 2, 3, 4, 5, 6, 8, 9, 10, 12, 15, 16, 18, 20, 24, 30, 36, 40, 45, 48, 60, 72, 80, 90, 120, 144, 180, 240, 360, 720] := by
    rcases Bool.or_eq_true _ _ ▸ h0 with h | h
    · rcases Bool.or_eq_true _ _ ▸ h with h | h
      · have := Nat.le_of_ble_eq_true h
        have := Nat.mod_eq_zero_of_dvd ha
        omega
      · have := Nat.eq_of_beq_eq_true h
        rw [this] at ha; exact absurd ha (by decide)
    · exact List.contains_iff_mem.mp h
  have h := List.all_eq_true.mp dm_all a h1
  have h2 := List.all_eq_true.mp h (b - 1) (List.mem_range.mpr (by omega))
  rw [show b - 1 + 1 = b by omega] at h2
  exact eq_of_beq h2
section
theorem idm_pm (c : Cx) (a b : Nat) (t1 t2 : Tok) (s : Shared) (ha : a ∣ 720) (hb : 0 < b) (hb2 : b ≤ 6) (hat : c.At2 (hideAll s.heap [55, 48])) (ht : Tab48 s.heap) (ht2 : Tab55 s.heap) :
    PM c 74 [.int a t1, .int b t2] 62 [55, 48] s (fun h' v => Tab48 h' ∧ Tab55 h' ∧ ∃ l u1 u2, v = .ref l ∧ s.heap.get? l = none ∧ IsTup h' l #[.int ((a / b : Nat) : Int) u1, .int ((a % b : Nat) : Int) u2]) := by
  obtain ⟨p48, e48⟩ := ht.ex
  obtain ⟨p55, e55⟩ := ht2.ex
  have hM := dm_ok ha hb hb2
  have X0 := hat.X
  have k0 : (hideAll s.heap [55, 48]).StaysIn s.heap := fun b o e => of_hideAll _ e
  unfold PM
  revert X0; k_fill; intro X0
  intro A Q E hA hd hu hret
  obtain ⟨hdl, dp, fr, gd, un⟩ := A
  cases hA
  dsimp only at hd hu
  k_dflt (refine' enter_fn (led := [(55, tabObj p55), (48, tabObj p48)]) k0 ?led hat.T.nolimit ?room (k0 _ _ (X0 _ _ ?fo)) (codeRec_of (X0.keeps k0) ?cd) ?bt ?kd ?_ ?r1 ?r2 ?r3 ?r4; (case fo => k_is); (case cd => k_is); (case bt => exact BindsTo.of_eq rfl); (case kd => exact locs rfl); (case r1 => exact rfl); (case r2 => exact rfl); (case r3 => exact rfl); (case r4 => decide); (case room => (dsimp only; omega)); k_whole)
  case led =>
    intro p hp
    rcases List.mem_cons.mp hp with rfl | hp
    · exact ⟨e55, hideAll_none _ (.head _)⟩
    · rw [List.mem_singleton.mp hp]; exact ⟨e48, hideAll_none _ (.tail _ (.head _))⟩
  intro g L' h1 kg kb kl F1 N1 lt1
  (try dsimp only); (try k_fold)
  have A1 := hat.keeps kg
  have X1 := A1.X
  have T1 := A1.T
  have C1 := A1.c1
  have C2 := A1.c2
  k_lt lt1
  have hled : ∀ p ∈ [((55 : Addr), tabObj p55), (48, tabObj p48)], s.heap.get? p.1 = some p.2 := fun p hp => by
    rcases List.mem_cons.mp hp with rfl | hp
    · exact e55
    · rw [List.mem_singleton.mp hp]; exact e48
  k_steps
  · exfalso; omega
  · have k1 : s.heap.StaysIn h1 := fun b o => KeepBut.end (as := []) kb F1.keep hled (fun p hp _ => (N1 p hp).1) b o (fun q => nomatch q)
    have n55 : g.get? 55 = none := (N1 (55, tabObj p55) (.head _)).2.2
    have n48 : g.get? 48 = none := (N1 (48, tabObj p48) (.tail _ (.head _))).2.2
    refine dmp_pm c _ _ _ _ _ _ _ hM (A1.keeps fun b o e => hideAll_get _ (F1.keep _ _ e) fun q => ?_) (ht.stays k1) (ht2.stays k1) _ _ _ rfl (by dsimp [Around.deeper]; omega) (by dsimp [Around.deeper]; omega) ?_
    · rcases List.mem_cons.mp q with rfl | q
      · rw [n55] at e; cases e
      · rw [List.mem_singleton.mp q, n48] at e; cases e
    · rintro r h' tk' kb' ⟨p1, p2, l, u1, u2, er, hn, hT⟩
      exact hret _ _ _ (fun b o n e => kb' _ _ n (k1 _ _ e)) ⟨p1, p2, l, u1, u2, er, none_of k1 hn, hT⟩
end
end Mine
end

section
namespace Mine
noncomputable def insI (ns : List Int) (x : Int) : List Int := ns.take (bis ns x 0 ns.length) ++ x :: ns.drop (bis ns x 0 ns.length)
theorem ints_take {vs : List Value} {ns : List Int} (h : IntsAre vs ns) : ∀ k, IntsAre (vs.take k) (ns.take k) := by
  induction h with
  | nil => intro k; rw [List.take_nil, List.take_nil]; exact .nil
  | cons n t _ ih =>
    intro k
    cases k with
    | zero => exact .nil
    | succ k => exact .cons n t (ih k)
theorem ints_drop {vs : List Value} {ns : List Int} (h : IntsAre vs ns) : ∀ k, IntsAre (vs.drop k) (ns.drop k) := by
  induction h with
  | nil => intro k; rw [List.drop_nil, List.drop_nil]; exact .nil
  | cons n t h ih =>
    intro k
    cases k with
    | zero => exact .cons n t h
    | succ k => exact ih k
theorem bis_le (ns : List Int) (x : Int) : ∀ (n lo hi : Nat), hi - lo ≤ n → lo ≤ hi → bis ns x lo hi ≤ hi := by
  intro n
  induction n with
  | zero => intro lo hi h h2; rw [bis.eq_def, if_neg (by omega)]; exact h2
  | succ n ih =>
    intro lo hi h h2
    rw [bis.eq_def]
    split
    · split
      · exact ih _ _ (by omega) (by omega)
      · exact Nat.le_trans (ih _ _ (by omega) (by omega)) (by omega)
    · exact h2
theorem fits_small {p : Nat} (h : p ≤ 1000) : Builtin.List.listFitsIndex (p : Int) = true := by
  unfold Builtin.List.listFitsIndex
  simp only [Bool.and_eq_true, decide_eq_true_eq]
  constructor <;> omega
section
theorem ins_pm (c : Cx) (ns : List Int) (x : Int) (tx : Tok) (s : Shared) (D : Addr) (us : List Value) (nn : Nat) (hI : IntsAre us ns) (hn : ns.length ≤ 900) (hD : s.heap.get? D = some (listOf us.toArray nn)) (hat : c.At (hideAll s.heap [D])) :
    PM c 23 [.ref D, .int x tx] 4 [D] s (fun h' r => r = .none ∧ ∃ (us' : List Value) (nn' : Nat), h'.get? D = some (listOf us'.toArray nn') ∧ IntsAre us' (insI ns x)) := by
  have X0 := hat.1
  have k0 : (hideAll s.heap [D]).StaysIn s.heap := fun b o e => of_hideAll _ e
  unfold PM
  revert X0; k_fill; intro X0
  intro A Q E hA hd hu hret
  obtain ⟨hdl, dp, fr, gd, un⟩ := A
  cases hA
  dsimp only at hd hu
  have H := And.intro (X0.keeps k0) True.intro
  k_dflt (refine' enter_fn (led := [(D, listOf us.toArray nn)]) k0 ?led hat.2.nolimit ?room (k0 _ _ (X0 _ _ ?fo)) (codeRec_of (X0.keeps k0) ?cd) ?bt ?kd ?_ ?r1 ?r2 ?r3 ?r4; (case fo => k_is); (case cd => k_is); (case bt => exact kp_binds (And.left (by assumption)) (fun _ => rfl)); (case kd => exact locs rfl); (case r1 => exact rfl); (case r2 => exact rfl); (case r3 => exact rfl); (case r4 => decide); (case room => (dsimp only; omega)); k_whole)
  case led =>
    intro p hp
    rw [List.mem_singleton.mp hp]; exact ⟨hD, hideAll_none _ (.head _)⟩
  intro g L' h1 kg kb kl F1 N1 lt1
  (try dsimp only); (try k_fold)
  have X1 := X0.keeps kg
  have T1 := hat.2.keeps kg
  k_lt lt1
  k_steps
  (rename Fr _ _ _ _ => F2); (rename News _ _ _ _ => N2)
  refine PC.use (bis4_pc c ns x _ _ _ _ (by omega) ⟨D, us, rfl, N2.isList (.head _), hI⟩) F2 N2 X1 T1 rfl (by dsimp [Around.deeper]; omega) (by dsimp [Around.deeper]; omega) ?_
  rintro r3 tl3 h3 tk3 F3 N3' k3 ⟨t3, er3⟩
  subst er3
  have N3 : News g L' h3 [(D, listOf us.toArray nn)] := fun p hp => N3' p (List.mem_append_left _ hp)
  clear N3'
  have hle := bis_le ns x ns.length 0 ns.length (by omega) (by omega)
  have hlu := hI.length
  k_steps
  (rename Fr _ _ _ _ => F4); (rename News _ _ _ _ => N4)
  refine' kl_insert (l := us.take (bis ns x 0 ns.length) ++ .int x tx :: us.drop (bis ns x 0 ns.length)) F4 N4 (fits_small (by omega)) ?e1 ?U1 ?z1 ?_
  case e1 =>
    show kl_ins us _ _ = _
    unfold kl_ins
    rw [if_neg (by omega), Int.toNat_natCast, Nat.min_eq_left (by omega)]
  case U1 => k_upd
  case z1 =>
    show us.length ≤ _
    exact Nat.le_trans (m := 1000) (by omega) (by decide)
  intro h5 F5 N5
  k_steps
  refine hret _ _ _ (fun b o n e => F5.keep _ _ (kb b o n e)) ⟨rfl, _, _, (N5 _ (.head _)).1, ?_⟩
  exact (ints_take hI _).append (.cons _ _ (ints_drop hI _))
end
end Mine
end

section
namespace Mine
theorem news_drop2 {g h : Heap} {L : Addr} {a b : Addr × Obj} {c : List (Addr × Obj)} (N : News g L h (a :: b :: c)) : News g L h (a :: c) := fun p hp => by
  rcases List.mem_cons.mp hp with rfl | hp
  · exact N _ (.head _)
  · exact N _ (.tail _ (.tail _ hp))
theorem TreeIn.few {news : List (Addr × Obj)} {v : Value} {t : Tree} (x : TreeIn news v t) : ∃ l, l.length = t.size ∧ (∀ p ∈ l, p ∈ news) ∧ TreeIn l v t := by
  induction x with
  | nil => exact ⟨[], rfl, fun _ h => (nomatch h), .nil⟩
  | @node a i tk v1 v2 l r n hm _ _ ih1 ih2 =>
    obtain ⟨l1, e1, s1, t1⟩ := ih1
    obtain ⟨l2, e2, s2, t2⟩ := ih2
    refine ⟨(a, { cls := .type "tuple", data := .seq #[.int i tk, v1, v2] n }) :: (l1 ++ l2), ?_, ?_, TreeIn.node (List.Mem.head _) (t1.mono fun p hp => .tail _ (List.mem_append_left _ hp)) (t2.mono fun p hp => .tail _ (List.mem_append_right _ hp))⟩
    · simp only [List.length_cons, List.length_append, Tree.size]; omega
    · intro p hp
      rcases List.mem_cons.mp hp with rfl | hp
      · exact hm
      · exact (List.mem_append.mp hp).elim (s1 p) (s2 p)
theorem six {α : Type} (k : List α) (h : k.length = 6) : ∃ a b c d e f, k = [a, b, c, d, e, f] := by
  obtain ⟨a, k, rfl⟩ := List.exists_cons_of_length_eq_add_one h
  obtain ⟨b, k, rfl⟩ := List.exists_cons_of_length_eq_add_one (Nat.succ.inj h)
  obtain ⟨c, k, rfl⟩ := List.exists_cons_of_length_eq_add_one (Nat.succ.inj (Nat.succ.inj h))
  obtain ⟨d, k, rfl⟩ := List.exists_cons_of_length_eq_add_one (Nat.succ.inj (Nat.succ.inj (Nat.succ.inj h)))
  obtain ⟨e, k, rfl⟩ := List.exists_cons_of_length_eq_add_one (Nat.succ.inj (Nat.succ.inj (Nat.succ.inj (Nat.succ.inj h))))
  obtain ⟨f, k, rfl⟩ := List.exists_cons_of_length_eq_add_one (Nat.succ.inj (Nat.succ.inj (Nat.succ.inj (Nat.succ.inj (Nat.succ.inj h)))))
  have : k = [] := List.eq_nil_of_length_eq_zero (Nat.succ.inj (Nat.succ.inj (Nat.succ.inj (Nat.succ.inj (Nat.succ.inj (Nat.succ.inj h))))))
  subst this
  exact ⟨a, b, c, d, e, f, rfl⟩
-- a tree of at most six nodes in a written ledger
theorem TreeIn.pad {news : List (Addr × Obj)} {v : Value} {t : Tree} (x : TreeIn news v t) (ht : t.size ≤ 6) (d : Addr × Obj) :
    ∃ a1 o1 a2 o2 a3 o3 a4 o4 a5 o5 a6 o6, TreeIn [(a1, o1), (a2, o2), (a3, o3), (a4, o4), (a5, o5), (a6, o6)] v t ∧ ∀ p ∈ ([(a1, o1), (a2, o2), (a3, o3), (a4, o4), (a5, o5), (a6, o6)] : List (Addr × Obj)), p ∈ news ∨ p = d := by
  obtain ⟨l, hl, hs, hx⟩ := x.few
  have h6 : (l ++ List.replicate (6 - l.length) d).length = 6 := by
    rw [List.length_append, List.length_replicate]; omega
  have h2 : TreeIn (l ++ List.replicate (6 - l.length) d) v t := hx.mono fun p hp => List.mem_append_left _ hp
  have h3 : ∀ p ∈ l ++ List.replicate (6 - l.length) d, p ∈ news ∨ p = d := fun p hp => (List.mem_append.mp hp).elim (fun h => .inl (hs p h)) fun h => .inr (List.eq_of_mem_replicate h)
  generalize l ++ List.replicate (6 - l.length) d = k at h6 h2 h3
  obtain ⟨p1, p2, p3, p4, p5, p6, rfl⟩ := six k h6
  exact ⟨p1.1, p1.2, p2.1, p2.2, p3.1, p3.2, p4.1, p4.2, p5.1, p5.2, p6.1, p6.2, h2, h3⟩
theorem grow_size : ∀ (n : Nat) (ns : List Int), ns.length ≤ n → (grow ns).size ≤ ns.length := by
  intro n
  induction n with
  | zero =>
    intro ns h
    have : ns = [] := List.eq_nil_of_length_eq_zero (by omega)
    subst this
    rw [grow]; exact Nat.le_refl _
  | succ n ih =>
    intro ns h
    cases ns with
    | nil => rw [grow]; exact Nat.le_refl _
    | cons x r =>
      rw [grow]
      simp only [List.length_cons] at h
      have l1 := List.length_filter_le (fun y => decide (y < x)) r
      have l2 := List.length_filter_le (fun y => decide (x < y)) r
      have h1 := ih (r.filter fun y => decide (y < x)) (by omega)
      have h2 := ih (r.filter fun y => decide (x < y)) (by omega)
      have h3 : (r.filter fun y => decide (y < x)).length + (r.filter fun y => decide (x < y)).length ≤ r.length := by
        clear h1 h2 l1 l2 h ih
        induction r with
        | nil => exact Nat.le_refl _
        | cons y r ihr =>
          simp only [List.filter_cons]
          by_cases h1 : y < x
          · have h2 : ¬ x < y := by omega
            simp only [h1, h2, decide_true, decide_false, if_true, List.length_cons, Bool.false_eq_true, if_false]; omega
          · by_cases h2 : x < y
            · simp only [h1, h2, decide_true, decide_false, if_true, List.length_cons, Bool.false_eq_true, if_false]; omega
            · simp only [h1, h2, decide_false, List.length_cons, Bool.false_eq_true, if_false]; omega
      simp only [Tree.size, List.length_cons]
      omega
theorem callerDepth : callerA.depth + 200 < recursionLimit := by decide +kernel
theorem callerUnits : callerA.units + 2500 < cLine := by decide +kernel
theorem tree6 {g h : Heap} {L a1 a2 a3 a4 a5 a6 : Addr} {o1 o2 o3 o4 o5 o6 : Obj} {rest : List (Addr × Obj)} {r : Value} {t : Tree} (x : TreeIn [(a1, o1), (a2, o2), (a3, o3), (a4, o4), (a5, o5), (a6, o6)] r t)
    (N : News g L h ((a1, o1) :: (a2, o2) :: (a3, o3) :: (a4, o4) :: (a5, o5) :: (a6, o6) :: rest)) : TreeAt h r t := (x.mono fun p hp => List.mem_append_left rest hp).at N
theorem news_tail {g h : Heap} {L : Addr} {a : Addr × Obj} {c : List (Addr × Obj)} (N : News g L h (a :: c)) : News g L h c := fun p hp => N p (.tail _ hp)
-- all that the first loop can come to: what is left, and the order so far
noncomputable def reach (n : Nat) : Nat → List (List Int × List Int)
  | 0 => [((List.range n).map fun (i : Nat) => (i : Int), [])]
  | k + 1 => (reach n k).flatMap fun p => (List.range p.1.length).map fun j => (p.1.take j ++ p.1.drop (j + 1), p.2 ++ [p.1.getD j 0])
theorem reach_ar {a n i j : Nat} (h : a = n - i) (hj : j < a) (hi : i + 1 ≤ n) : j + (a - (j + 1)) = n - (i + 1) := by omega
theorem reach_len (n : Nat) : ∀ (i : Nat) (p : List Int × List Int), i ≤ n → p ∈ reach n i → p.1.length = n - i ∧ p.2.length = i
  | 0, p, _, h => by
    rw [reach, List.mem_singleton] at h; subst h; simp
  | i + 1, p, hi, h => by
    rw [reach] at h
    obtain ⟨q, hq, h⟩ := List.mem_flatMap.mp h
    obtain ⟨j, hj, rfl⟩ := List.mem_map.mp h
    obtain ⟨h1, h2⟩ := reach_len n i q (Nat.le_of_succ_le hi) hq
    have hj' := List.mem_range.mp hj
    refine ⟨?_, ?_⟩
    · rw [List.length_append, List.length_take, List.length_drop, Nat.min_eq_left (Nat.le_of_lt hj')]
      exact reach_ar h1 hj' hi
    · rw [List.length_append, h2]; rfl
theorem reach_step {n i : Nat} {lf os : List Int} (h : (lf, os) ∈ reach n i) {j : Nat} (hj : j < lf.length) : (lf.take j ++ lf.drop (j + 1), os ++ [lf.getD j 0]) ∈ reach n (i + 1) := by
  rw [reach]
  exact List.mem_flatMap.mpr ⟨_, h, List.mem_map.mpr ⟨j, List.mem_range.mpr hj, rfl⟩⟩
theorem cut_ok : ∀ (l : List Value) (k : Nat) (v : Value), l[k]? = some v → kl_cut l k = some (l.take k, v, l.drop (k + 1))
  | [], _, _, h => by simp at h
  | x :: l, 0, v, h => by
    simp only [List.getElem?_cons_zero, Option.some.injEq] at h; subst h; rfl
  | x :: l, k + 1, v, h => by
    have := cut_ok l k v (by simpa using h)
    simp [kl_cut, this]
theorem seqIndex_nat {k n : Nat} (h : k < n) : seqIndex? (k : Int) n = some k := by
  unfold seqIndex?
  have h1 : ¬ ((k : Int) < 0) := by omega
  simp [h1, h]
end Mine
end

section
namespace Mine
section
variable {prog : Program} {w : World} {A : Around} {E : Value → Shared → Prop} {s : Shared} {env : Env} {h₀ : Heap} {xi xc : Str} {body : List Stmt} {Q : Flow → Shared → Prop}
-- one of the loop's own entries, or the list's in its place
theorem own_pick {g h : Heap} {L a l : Addr} {lo : Obj} {own ns : List (Addr × Obj)} (N : News g L h (own ++ ns)) (hl : (l, lo) ∈ ns) :
    ∃ x y, (x = a ∨ x = l) ∧ (x, y) ∈ own ++ ns ∧ ∀ p ∈ own, p.1 = a → p = (x, y) := by
  by_cases q : ∃ o, (a, o) ∈ own
  · obtain ⟨o, ho⟩ := q
    refine ⟨a, o, .inl rfl, List.mem_append_left _ ho, fun p hp e => ?_⟩
    have h1 := (N _ (List.mem_append_left _ hp)).1
    have h2 := (N _ (List.mem_append_left _ ho)).1
    rw [e] at h1
    exact Prod.ext e (Option.some.inj (h1.symm.trans h2))
  · exact ⟨l, lo, .inr rfl, List.mem_append_right _ hl, fun p hp e => absurd ⟨p.2, e ▸ hp⟩ q⟩
theorem my_enum {m : Str → Option Value} {news : List (Addr × Obj)} {l : Addr} {vs : List Value} {nn : Nat} (hh : A.handled = none)
    (F : Fr h₀ env.locals s.heap m) (N : News h₀ env.locals s.heap news) (hm : (l, listOf vs.toArray nn) ∈ news)
    (h : ∀ e it : Addr, (∀ p ∈ news, p.1 < it) → it < e → ∃ J : Nat → (Str → Option Value) → List (Addr × Obj) → Prop,
      (∀ i m ns, J i m ns → (l, listOf vs.toArray nn) ∈ ns) ∧ J 0 m news ∧
      (∀ i t v m₁ ns x1 y1 x2 y2 h₁ tk₁, vs[i]? = some v → J i m₁ ns → ns.map (·.1) = news.map (·.1) → (x1 = e ∨ x1 = l) → (x2 = it ∨ x2 = l) →
        Fr h₀ env.locals h₁ (fun y => if y = xc then some v else if y = xi then some (.int (i : Nat) t) else m₁ y) → News h₀ env.locals h₁ ((x1, y1) :: (x2, y2) :: ns) →
        wpAny (model prog w) A (execs body env) (TurnFor Q fun s' => ∃ h' tk m' ns', s' = { s with heap := h', toks := tk } ∧ Fr h₀ env.locals h' m' ∧ News h₀ env.locals h' ((x1, y1) :: (x2, y2) :: ns') ∧ ns'.map (·.1) = ns.map (·.1) ∧ J (i + 1) m' ns') E { s with heap := h₁, toks := tk₁ }) ∧
      (∀ h' tk m' ns, Fr h₀ env.locals h' m' → News h₀ env.locals h' ns → J vs.length m' ns → Q .next { s with heap := h', toks := tk })) :
    wpAny (model prog w) A (call (.type "enumerate") [.ref l]) (fun xv s₁ => wpAny (model prog w) A (pyIter xv) (fun it s₂ => PairAt3 prog w A h₀ env xi xc body Q E it s₂) E s₁) E s := by
  have hl : s.heap.IsList l vs.toArray := N.isList hm
  have hlt : ∀ p ∈ news, p.1 < s.heap.objs.size := fun p hp => Heap.lt_size (N p hp).1
  have hL : env.locals < s.heap.objs.size := F.ns.lt
  have hll := hlt _ hm
  obtain ⟨J, hJK, h0, turn, done⟩ := h (s.heap.objs.size + 1) s.heap.objs.size hlt (Nat.lt_succ_self _)
  refine call_enumerate_list hl fun h' he hit hsz hk => ?_
  refine wpAny_pyIter_enum he ?_
  have W := WalksT.enumerate (prog := prog) (w := w) hh (s.heap.objs.size + 1) s.heap.objs.size l (Nat.succ_ne_self _) (Nat.ne_of_lt (Nat.lt_succ_of_lt hll)) (Nat.ne_of_lt hll) vs.toArray
  refine ⟨s.heap.objs.size + 1, _, _, _, _, _, _, fun i v0 v1 => (∃ t, v0 = .int (i : Nat) t) ∧ vs[i]? = some v1, m, news, J, rfl, W, ?_, ?_, ?_, ?_, ⟨⟨_, he⟩, hit, stays_list hk hl⟩, F.keeps hk, N.grown hk, h0, ?_, ?_⟩
  · rintro i vals ⟨t, x, hx, rfl⟩
    exact ⟨_, _, rfl, ⟨t, rfl⟩, by simpa using hx⟩
  · intro q
    rcases List.mem_cons.mp q with e | q
    · exact Nat.ne_of_lt (Nat.lt_succ_of_lt hL) e
    rcases List.mem_cons.mp q with e | q
    · exact Nat.ne_of_lt hL e
    · exact (N _ hm).2.1 (List.mem_singleton.mp q).symm
  · intro b hb
    have hb2 : s.heap.objs.size ≤ b := by
      rcases List.mem_cons.mp hb with rfl | hb
      · exact Nat.le_succ _
      · rw [List.mem_singleton.mp hb]; exact Nat.le_refl _
    exact Heap.get?_none_of_le (Nat.le_trans (Nat.le_trans F.above (Nat.le_of_lt hL)) hb2)
  · intro p hp q
    have hp2 := hlt p hp
    rcases List.mem_cons.mp q with e | q
    · exact Nat.ne_of_lt (Nat.lt_succ_of_lt hp2) e
    · exact Nat.ne_of_lt hp2 (List.mem_singleton.mp q)
  · rintro i v0 v1 m₁ ns s₁ own ⟨h₁, tk₁, rfl⟩ hin ⟨⟨t, rfl⟩, hv⟩ hJ hmap hown F₁ N₁
    have hml := hJK _ _ _ hJ
    obtain ⟨x1, y1, hx1, hm1, hp1⟩ := own_pick (a := s.heap.objs.size + 1) N₁ hml
    obtain ⟨x2, y2, hx2, hm2, hp2⟩ := own_pick (a := s.heap.objs.size) N₁ hml
    have N₂ : News h₀ env.locals h₁ ((x1, y1) :: (x2, y2) :: ns) := fun p hp => by
      rcases List.mem_cons.mp hp with rfl | hp
      · exact N₁ _ hm1
      rcases List.mem_cons.mp hp with rfl | hp
      · exact N₁ _ hm2
      · exact N₁ _ (List.mem_append_right _ hp)
    refine wpAny_mono (turn i t v1 m₁ ns x1 y1 x2 y2 h₁ tk₁ hv hJ hmap hx1 hx2 F₁ N₂) (fun f s₃ p => ?_) fun _ _ e => e
    have fin : (∃ h' tk m' ns', s₃ = { s with heap := h', toks := tk } ∧ Fr h₀ env.locals h' m' ∧ News h₀ env.locals h' ((x1, y1) :: (x2, y2) :: ns') ∧ ns'.map (·.1) = ns.map (·.1) ∧ J (i + 1) m' ns') →
        LoopStep2 h₀ env.locals own ns (J (i + 1)) { s with heap := h₁, toks := tk₁ } .next s₃ := by
      rintro ⟨h', tk, m', ns', e, F', N', hmp, hJ'⟩
      refine ⟨rfl, h', tk, m', ns', e, F', fun p hp => ?_, hmp, hJ'⟩
      rcases List.mem_append.mp hp with hp | hp
      · rcases List.mem_cons.mp (hown p hp) with e1 | h1
        · rw [hp1 p hp e1]; exact N' _ (.head _)
        rcases List.mem_cons.mp h1 with e1 | h1
        · rw [hp2 p hp e1]; exact N' _ (.tail _ (.head _))
        · have e1 := List.mem_singleton.mp h1
          have q1 := (N₁ _ (List.mem_append_left _ hp)).1
          have q2 := (N₁ _ (List.mem_append_right _ hml)).1
          rw [e1] at q1
          have h3 : p = (l, listOf vs.toArray nn) := Prod.ext e1 (Option.some.inj (q1.symm.trans q2))
          rw [h3]; exact N' _ (.tail _ (.tail _ (hJK _ _ _ hJ')))
      · exact N' _ (.tail _ (.tail _ hp))
    cases f with
    | ret v => exact p
    | brk => exact p
    | next => exact fin p
    | cont => exact fin p
  · intro h' tk m' ns F' N' _ hJ
    exact done h' tk m' ns F' N' (by simpa using hJ)
end
end Mine
end

section
namespace Mine
-- the tree as plain data
noncomputable def Tree.data : Tree → PyData
  | .nil => .none
  | .node i l r => .tuple [.int i, l.data, r.data]
theorem TreeAt.reads {h : Heap} {v : Value} {t : Tree} (x : TreeAt h v t) : ∃ as, Reads h v t.data as := by
  induction x with
  | nil => exact ⟨_, .none⟩
  | node hm _ _ ih1 ih2 =>
    obtain ⟨a1, r1⟩ := ih1
    obtain ⟨a2, r2⟩ := ih2
    obtain ⟨o, ho, hc, n, hd⟩ := hm
    exact ⟨_, .tuple ho hc hd (.cons (.int _ _) (.cons r1 (.cons r2 .nil)))⟩
theorem Tree.canLay : ∀ t : Tree, t.data.canLay0 = true
  | .nil => rfl
  | .node i l r => by simp [Tree.data, PyData.canLay0, PyData.canLayAll0, Tree.canLay l, Tree.canLay r]
theorem Tree.depth_le : ∀ t : Tree, t.data.depth ≤ t.size + 1
  | .nil => by simp [Tree.data, PyData.depth, Tree.size]
  | .node i l r => by
    have h1 := Tree.depth_le l
    have h2 := Tree.depth_le r
    simp only [Tree.data, PyData.depth, PyData.depthAll, Tree.size]
    omega
theorem Tree.shaped {t : Tree} (h : t.size ≤ 60) : SeqAt.shaped t.data = true := by
  have h1 := Tree.depth_le t
  simp only [SeqAt.shaped, Tree.canLay t, Bool.true_and, decide_eq_true_eq]; omega
theorem Tree.eqv : ∀ t u : Tree, PyData.eqv t.data u.data = decide (t = u)
  | .nil, .nil => by simp [Tree.data, PyData.eqv]
  | .nil, .node _ _ _ => by simp [Tree.data, PyData.eqv]
  | .node _ _ _, .nil => by simp [Tree.data, PyData.eqv]
  | .node i l r, .node j k q => by
    simp only [Tree.data, PyData.eqv, PyData.eqvAll, Tree.eqv l k, Tree.eqv r q, Bool.and_true]
    by_cases h : i = j <;> by_cases h' : l = k <;> by_cases h2 : r = q <;> simp [h, h', h2]
section
variable {prog : Program} {w : World} {A : Around} {E : Value → Shared → Prop} {s : Shared} {a b : Value} {t u : Tree} {Q : Value → Shared → Prop}
theorem tree_eq (ha : TreeAt s.heap a t) (hb : TreeAt s.heap b u) (h1 : t.size ≤ 60) (h2 : u.size ≤ 60) (hu : A.units + 64 < cLine) (h : Q (.bool (decide (t = u))) s) :
    wpAny (model prog w) A (compareOp .Eq a b) Q E s := by
  obtain ⟨_, r1⟩ := ha.reads
  obtain ⟨_, r2⟩ := hb.reads
  exact eq_dataH r1 r2 (Tree.shaped h1) (Tree.shaped h2) hu (by rw [Tree.eqv]; exact h)
theorem tree_ne (ha : TreeAt s.heap a t) (hb : TreeAt s.heap b u) (h1 : t.size ≤ 60) (h2 : u.size ≤ 60) (hu : A.units + 64 < cLine) (h : Q (.bool (!decide (t = u))) s) :
    wpAny (model prog w) A (compareOp .NotEq a b) Q E s := by
  obtain ⟨_, r1⟩ := ha.reads
  obtain ⟨_, r2⟩ := hb.reads
  exact ne_dataH r1 r2 (Tree.shaped h1) (Tree.shaped h2) hu (by rw [Tree.eqv]; exact h)
end
end Mine
end

section
namespace Mine
noncomputable def ltF : Int → Int → Bool
  | .ofNat a, .ofNat b => Nat.blt a b
  | a, b => decide (a < b)
theorem ltF_eq (a b : Int) : ltF a b = decide (a < b) := by
  cases a <;> cases b <;> simp only [ltF]
  rename_i a b
  by_cases h : a < b
  · rw [decide_eq_true (by simpa using h)]; simpa [Nat.blt_eq] using h
  · rw [decide_eq_false (by simpa using h)]
    have : ¬ (Nat.blt a b = true) := fun q => h (Nat.blt_eq.mp q)
    exact Bool.eq_false_iff.mpr this
noncomputable def eqF : Int → Int → Bool
  | .ofNat a, .ofNat b => Nat.beq a b
  | a, b => decide (a = b)
theorem eqF_eq (a b : Int) : eqF a b = decide (a = b) := by
  cases a <;> cases b <;> simp only [eqF]
  rename_i a b
  by_cases h : a = b
  · subst h; simp
  · have h1 : ¬ (Nat.beq a b = true) := fun q => h (Nat.eq_of_beq_eq_true q)
    rw [decide_eq_false (fun q => h (Int.ofNat.inj q))]
    exact Bool.eq_false_iff.mpr h1
noncomputable def filF (p : Int → Bool) : List Int → List Int
  | [] => []
  | x :: r => bif p x then x :: filF p r else filF p r
theorem filF_eq (p : Int → Bool) : ∀ l, filF p l = l.filter p
  | [] => rfl
  | x :: r => by
    cases h : p x <;> simp [filF, h, filF_eq p r]
noncomputable def growF : Nat → List Int → Tree
  | 0, _ => .nil
  | _ + 1, [] => .nil
  | k + 1, x :: r => .node x (growF k (filF (fun y => ltF y x) r)) (growF k (filF (fun y => ltF x y) r))
noncomputable def treeF : Tree → Tree → Bool
  | .nil, .nil => true
  | .node i l r, .node j k q => eqF i j && (treeF l k && treeF r q)
  | _, _ => false
theorem treeF_eq : ∀ t u, treeF t u = decide (t = u)
  | .nil, .nil => by simp [treeF]
  | .nil, .node _ _ _ => by simp [treeF]
  | .node _ _ _, .nil => by simp [treeF]
  | .node i l r, .node j k q => by
    simp only [treeF, eqF_eq, treeF_eq l k, treeF_eq r q]
    by_cases h : i = j <;> by_cases h' : l = k <;> by_cases h2 : r = q <;> simp [h, h', h2]
noncomputable def getF : List Int → Nat → Int
  | [], _ => 0
  | x :: _, 0 => x
  | _ :: r, i + 1 => getF r i
theorem getF_eq : ∀ l i, getF l i = l.getD i 0
  | [], i => by simp [getF]
  | x :: _, 0 => rfl
  | _ :: r, i + 1 => by simp [getF, getF_eq r i]
noncomputable def bisF : Nat → List Int → Int → Nat → Nat → Nat
  | 0, _, _, lo, _ => lo
  | k + 1, ns, x, lo, hi => bif Nat.blt lo hi then (bif ltF (getF ns ((lo + hi) / 2)) x then bisF k ns x ((lo + hi) / 2 + 1) hi else bisF k ns x lo ((lo + hi) / 2)) else lo
noncomputable def insF (ns : List Int) (x : Int) : List Int := ns.take (bisF 7 ns x 0 ns.length) ++ x :: ns.drop (bisF 7 ns x 0 ns.length)
-- a dict of ints to ints or None
noncomputable def encO : Option Int → PyData
  | none => .none
  | some i => .int i
noncomputable def encP (p : Int × Option Int) : PyData × PyData := (.int p.1, encO p.2)
noncomputable def hasF (k : Int) : List (Int × Option Int) → Bool
  | [] => false
  | p :: r => eqF p.1 k || hasF k r
noncomputable def setF (k : Int) (v : Option Int) : List (Int × Option Int) → List (Int × Option Int)
  | [] => []
  | p :: r => (bif eqF p.1 k then (p.1, v) else p) :: setF k v r
noncomputable def putF (k : Int) (v : Option Int) (D : List (Int × Option Int)) : List (Int × Option Int) := bif hasF k D then setF k v D else D ++ [(k, v)]
noncomputable def mergeF (D : List (Int × Option Int)) : List (Int × Option Int) → List (Int × Option Int)
  | [] => D
  | p :: r => mergeF (putF p.1 p.2 D) r
noncomputable def aboveF : Tree → Option Int → List (Int × Option Int)
  | .nil, _ => []
  | .node i l r, o => mergeF (mergeF [(i, o)] (aboveF l (some i))) (aboveF r (some i))
noncomputable def lookF (k : Int) : List (Int × Option Int) → Option (Option Int)
  | [] => none
  | p :: r => bif eqF p.1 k then some p.2 else lookF k r
noncomputable def idxF (k : Int) : List Int → Nat
  | [] => 0
  | x :: r => bif eqF x k then 0 else idxF k r + 1
noncomputable def memF (k : Int) : List Int → Bool
  | [] => false
  | x :: r => eqF x k || memF k r
-- the neighbours
noncomputable def nearL (lds : List Int) (pp : Nat) : List Int := (lds.drop (pp - 1)).take (pp - (pp - 1)) ++ (lds.drop pp).take 1
-- one turn of the second loop
noncomputable def turnF (D : List (Int × Option Int)) (os lds : List Int) (x : Int) : Bool :=
  match nearL lds (bisF 7 lds x 0 lds.length) with
  | [] => (match lookF x D with | some none => true | _ => false)
  | a :: r => (match lookF x D with | some (some b) => eqF b (bif Nat.blt (idxF (getF (a :: r) ((a :: r).length - 1)) os) (idxF a os) then a else getF (a :: r) ((a :: r).length - 1)) | _ => false) && (memF a os && memF (getF (a :: r) ((a :: r).length - 1)) os)
noncomputable def loop2F (D : List (Int × Option Int)) (os lds : List Int) : List Int → Bool
  | [] => true
  | x :: r => turnF D os lds x && loop2F D os (insF lds x) r
noncomputable def layF (lds : List Int) : List Int → List Int
  | [] => lds
  | x :: r => layF (insF lds x) r
noncomputable def listF : List Int → List Int → Bool
  | [], [] => true
  | a :: r, b :: t => eqF a b && listF r t
  | _, _ => false
theorem listF_eq : ∀ l k, listF l k = true → l = k
  | [], [], _ => rfl
  | a :: r, b :: t, h => by
    simp only [listF, Bool.and_eq_true, eqF_eq, decide_eq_true_eq] at h
    rw [h.1, listF_eq r t h.2]
  | [], _ :: _, h => by simp [listF] at h
  | _ :: _, [], h => by simp [listF] at h
noncomputable def divsF (d : Nat) : List Int → Option Nat
  | [] => some d
  | z :: r => bif Nat.beq (720 % d) 0 && (Nat.ble 1 z.toNat && (Nat.ble z.toNat 6 && Nat.beq (d % z.toNat) 0)) then divsF (d / z.toNat) r else none
noncomputable def upF (D : List (Int × Option Int)) : Nat → Option Int → Nat → Option Nat
  | 0, _, _ => none
  | _ + 1, none, s => some s
  | k + 1, some h, s => bif Nat.blt s 99 then (match lookF h D with | none => none | some h' => upF D k h' (s + 1)) else none
noncomputable def stepsF (D : List (Int × Option Int)) (st : Nat) : List Int → Option Nat
  | [] => some st
  | x :: r => match lookF x D with
    | none => none
    | some h => match upF D 8 h st with
      | none => none
      | some st' => stepsF D st' r
noncomputable def factF : Nat → Nat
  | 0 => 1
  | k + 1 => (k + 1) * factF k
noncomputable def sumF : List Int → Int
  | [] => 0
  | x :: r => x + sumF r
-- an order is right
noncomputable def rightF (n : Nat) (os : List Int) : Bool :=
  let T := growF 7 os
  let D := aboveF T none
  loop2F D os [] os && (listF T.told (layF [] os) && (listF (layF [] os) ((List.range n).map fun (i : Nat) => (i : Int)) && (treeF (growF 7 T.ahead) T &&
    ((divsF (factF n) T.sizes).isSome && (match stepsF D 0 os with | some st => eqF (st : Int) (sumF T.sizes - n) | none => false)))))
noncomputable def reachF (n : Nat) : Nat → List (List Int × List Int)
  | 0 => [((List.range n).map fun (i : Nat) => (i : Int), [])]
  | k + 1 => (reachF n k).flatMap fun p => (List.range p.1.length).map fun j => (p.1.take j ++ p.1.drop (j + 1), p.2 ++ [p.1.getD j 0])
theorem right0 : ((reachF 0 0).all fun p => rightF 0 p.2) = true := by decide +kernel
theorem right1 : ((reachF 1 1).all fun p => rightF 1 p.2) = true := by decide +kernel
theorem right2 : ((reachF 2 2).all fun p => rightF 2 p.2) = true := by decide +kernel
theorem right3 : ((reachF 3 3).all fun p => rightF 3 p.2) = true := by decide +kernel
theorem right4 : ((reachF 4 4).all fun p => rightF 4 p.2) = true := by decide +kernel
theorem right5 : ((reachF 5 5).all fun p => rightF 5 p.2) = true := by decide +kernel
theorem right6a : ((((reachF 6 6).drop 0).take 120).all fun p => rightF 6 p.2) = true := by decide +kernel
theorem right6b : ((((reachF 6 6).drop 120).take 120).all fun p => rightF 6 p.2) = true := by decide +kernel
theorem right6c : ((((reachF 6 6).drop 240).take 120).all fun p => rightF 6 p.2) = true := by decide +kernel
theorem right6d : ((((reachF 6 6).drop 360).take 120).all fun p => rightF 6 p.2) = true := by decide +kernel
theorem right6e : ((((reachF 6 6).drop 480).take 120).all fun p => rightF 6 p.2) = true := by decide +kernel
theorem right6f : (((reachF 6 6).drop 600).all fun p => rightF 6 p.2) = true := by decide +kernel
end Mine
end

section
namespace Mine
noncomputable def cntF (T : Tree) : List Tree → Nat
  | [] => 0
  | t :: r => bif treeF t T then cntF T r + 1 else cntF T r
theorem cntF_eq (T : Tree) : ∀ l, cntF T l = (l.filter fun t => decide (t = T)).length
  | [] => rfl
  | t :: r => by
    simp only [cntF, treeF_eq, List.filter_cons, cntF_eq T r]
    by_cases h : t = T <;> simp [h]
noncomputable def rangeI (n : Nat) : List Int := (List.range n).map fun (i : Nat) => (i : Int)
-- as many orders grow the tree as the product is
noncomputable def countF (n : Nat) (l : List Tree) (os : List Int) : Bool :=
  match divsF (factF n) (growF 7 os).sizes with
  | some d => Nat.beq d (cntF (growF 7 os) l)
  | none => false
noncomputable def treesF (n : Nat) : List Tree := (ordersK 6 (rangeI n)).map (growF 7)
theorem count0 : ((reachF 0 0).all fun p => countF 0 (treesF 0) p.2) = true := by decide +kernel
theorem count1 : ((reachF 1 1).all fun p => countF 1 (treesF 1) p.2) = true := by decide +kernel
theorem count2 : ((reachF 2 2).all fun p => countF 2 (treesF 2) p.2) = true := by decide +kernel
theorem count3 : ((reachF 3 3).all fun p => countF 3 (treesF 3) p.2) = true := by decide +kernel
theorem count4 : ((reachF 4 4).all fun p => countF 4 (treesF 4) p.2) = true := by decide +kernel
theorem count5 : ((reachF 5 5).all fun p => countF 5 (treesF 5) p.2) = true := by decide +kernel
end Mine
end

section
namespace Mine
theorem grow_F : ∀ (k : Nat) (ns : List Int), ns.length ≤ k → growF k ns = grow ns
  | 0, ns, h => by
    have : ns = [] := List.eq_nil_of_length_eq_zero (by omega)
    subst this; rw [grow]; rfl
  | k + 1, [], _ => by rw [grow]; rfl
  | k + 1, x :: r, h => by
    simp only [List.length_cons] at h
    have e1 : (fun y => ltF y x) = fun y => decide (y < x) := funext fun y => ltF_eq y x
    have e2 : (fun y => ltF x y) = fun y => decide (x < y) := funext fun y => ltF_eq x y
    have l1 := List.length_filter_le (fun y => decide (y < x)) r
    have l2 := List.length_filter_le (fun y => decide (x < y)) r
    rw [growF, filF_eq, filF_eq, e1, e2, grow_F k _ (by omega), grow_F k _ (by omega)]
    conv => rhs; rw [grow]
theorem bis_F : ∀ (k : Nat) (ns : List Int) (x : Int) (lo hi : Nat), hi - lo ≤ k → bisF k ns x lo hi = bis ns x lo hi
  | 0, ns, x, lo, hi, h => by
    rw [bis.eq_def, if_neg (by omega)]; rfl
  | k + 1, ns, x, lo, hi, h => by
    rw [bis.eq_def, bisF, ltF_eq, getF_eq]
    by_cases h1 : lo < hi
    · have e : Nat.blt lo hi = true := Nat.blt_eq.mpr h1
      rw [if_pos h1, e, cond_true]
      by_cases h2 : ns.getD ((lo + hi) / 2) 0 < x
      · rw [if_pos h2, decide_eq_true h2, cond_true]; exact bis_F k _ _ _ _ (by omega)
      · rw [if_neg h2, decide_eq_false h2, cond_false]; exact bis_F k _ _ _ _ (by omega)
    · have e : Nat.blt lo hi = false := Bool.eq_false_iff.mpr fun q => h1 (Nat.blt_eq.mp q)
      rw [if_neg h1, e, cond_false]
theorem same_int2 (a b : Int) : PySem.Spec.same (.int a) (.int b) = decide (a = b) := by
  simp only [PySem.Spec.same]
  by_cases h : a = b <;> simp [h]
theorem has_F (k : Int) : ∀ D : List (Int × Option Int), (D.map encP).any (fun p => PySem.Spec.same p.1 (.int k)) = hasF k D
  | [] => rfl
  | p :: r => by
    simp only [List.map_cons, List.any_cons, hasF, has_F k r, encP, same_int2, eqF_eq]
theorem set_F (k : Int) (v : Option Int) : ∀ D : List (Int × Option Int), (D.map encP).map (fun p => if PySem.Spec.same p.1 (.int k) then (p.1, encO v) else p) = (setF k v D).map encP
  | [] => rfl
  | p :: r => by
    simp only [List.map_cons, setF, set_F k v r, encP, same_int2, eqF_eq]
    by_cases h : p.1 = k <;> simp [h]
theorem put_F (k : Int) (v : Option Int) (D : List (Int × Option Int)) : PyProof.V.putD (.int k) (encO v) (D.map encP) = (putF k v D).map encP := by
  unfold PyProof.V.putD putF
  rw [has_F, set_F]
  cases hasF k D <;> simp [encP]
theorem merge_F : ∀ (D₂ D : List (Int × Option Int)), ktMergeD (D.map encP) (D₂.map encP) = (mergeF D D₂).map encP
  | [], D => rfl
  | p :: r, D => by
    have h := merge_F r (putF p.1 p.2 D)
    rw [mergeF, ← h, ← put_F]
    rfl
theorem above_F : ∀ (t : Tree) (o : Option Int), t.aboveD (encO o) = (aboveF t o).map encP
  | .nil, _ => rfl
  | .node i l r, o => by
    rw [Tree.aboveD, aboveF, ← merge_F, ← merge_F, ← above_F l (some i), ← above_F r (some i)]
    rfl
theorem look_F (k : Int) : ∀ D : List (Int × Option Int), lookup (.int k) (D.map encP) = (lookF k D).map encO
  | [] => rfl
  | p :: r => by
    simp only [List.map_cons, encP, PySem.Spec.lookup, same_int2, lookF, eqF_eq, look_F k r]
    by_cases h : p.1 = k <;> simp [h]
theorem mem_F (k : Int) : ∀ l : List Int, memF k l = true → k ∈ l
  | [], h => by simp [memF] at h
  | x :: r, h => by
    simp only [memF, Bool.or_eq_true, eqF_eq, decide_eq_true_eq] at h
    rcases h with h | h
    · rw [h]; exact .head _
    · exact .tail _ (mem_F k r h)
theorem idx_F (k : Int) : ∀ l : List Int, idxF k l = l.idxOf k
  | [] => rfl
  | x :: r => by
    simp only [idxF, eqF_eq, List.idxOf_cons, idx_F k r]
    by_cases h : x = k
    · simp [h]
    · have h2 : (x == k) = false := by simpa using h
      simp [h, h2]
end Mine
end

section
namespace Mine
theorem reach_eq (n : Nat) : ∀ k, reach n k = reachF n k
  | 0 => by rw [reach, reachF]
  | k + 1 => by rw [reach, reachF, reach_eq n k]
theorem all_cut {α : Type} {l : List α} {f : α → Bool} {i : Nat} (a : (((l.drop i).take 120).all f) = true) (b : ((l.drop (i + 120)).all f) = true) : ((l.drop i).all f) = true := List.all_eq_true.mpr fun p hp => by
  rw [← List.take_append_drop 120 (l.drop i)] at hp
  rcases List.mem_append.mp hp with hp | hp
  · exact List.all_eq_true.mp a p hp
  · rw [List.drop_drop] at hp
    exact List.all_eq_true.mp b p hp
theorem right6 : ((reachF 6 6).all fun p => rightF 6 p.2) = true :=
  all_cut (i := 0) right6a (all_cut (i := 120) right6b (all_cut (i := 240) right6c (all_cut (i := 360) right6d (all_cut (i := 480) right6e right6f))))
theorem right_of : ∀ (n : Nat), n ≤ 6 → ∀ (p : List Int × List Int), p ∈ reach n n → rightF n p.2 = true
  | 0, _, p, h => List.all_eq_true.mp right0 p (by rw [← reach_eq]; exact h)
  | 1, _, p, h => List.all_eq_true.mp right1 p (by rw [← reach_eq]; exact h)
  | 2, _, p, h => List.all_eq_true.mp right2 p (by rw [← reach_eq]; exact h)
  | 3, _, p, h => List.all_eq_true.mp right3 p (by rw [← reach_eq]; exact h)
  | 4, _, p, h => List.all_eq_true.mp right4 p (by rw [← reach_eq]; exact h)
  | 5, _, p, h => List.all_eq_true.mp right5 p (by rw [← reach_eq]; exact h)
  | 6, _, p, h => List.all_eq_true.mp right6 p (by rw [← reach_eq]; exact h)
  | n + 7, h, _, _ => absurd h (by omega)
theorem count_of : ∀ (n : Nat), n ≤ 5 → ∀ (p : List Int × List Int), p ∈ reach n n → countF n (treesF n) p.2 = true
  | 0, _, p, h => List.all_eq_true.mp count0 p (by rw [← reach_eq]; exact h)
  | 1, _, p, h => List.all_eq_true.mp count1 p (by rw [← reach_eq]; exact h)
  | 2, _, p, h => List.all_eq_true.mp count2 p (by rw [← reach_eq]; exact h)
  | 3, _, p, h => List.all_eq_true.mp count3 p (by rw [← reach_eq]; exact h)
  | 4, _, p, h => List.all_eq_true.mp count4 p (by rw [← reach_eq]; exact h)
  | 5, _, p, h => List.all_eq_true.mp count5 p (by rw [← reach_eq]; exact h)
  | n + 6, h, _, _ => absurd h (by omega)
theorem grow_ahead_le : ∀ t : Tree, t.ahead.length = t.size
  | .nil => rfl
  | .node i l r => by simp only [Tree.ahead, Tree.size, List.length_append, List.length_singleton, grow_ahead_le l, grow_ahead_le r]; omega
-- what is known of an order
structure Right (n : Nat) (os : List Int) : Prop where
  turns : loop2F (aboveF (grow os) none) os [] os = true
  told : (grow os).told = layF [] os
  laid : layF [] os = rangeI n
  again : grow (grow os).ahead = grow os
  divs : (divsF (factF n) (grow os).sizes).isSome = true
  steps : ∃ st : Nat, stepsF (aboveF (grow os) none) 0 os = some st ∧ (st : Int) = sumF (grow os).sizes - n
  count : n ≤ 5 → divsF (factF n) (grow os).sizes = some ((ordersK 6 (rangeI n)).filter fun o => decide (grow o = grow os)).length
theorem Right.of {n : Nat} (hn : n ≤ 6) {lf os : List Int} (h : (lf, os) ∈ reach n n) : Right n os := by
  have hl := (reach_len n n _ (Nat.le_refl _) h).2
  dsimp only at hl
  have e := grow_F 7 os (by omega)
  have hs := grow_size 7 os (by omega)
  have e2 := grow_F 7 (grow os).ahead (by rw [grow_ahead_le]; omega)
  have q := right_of n hn _ h
  unfold rightF at q
  dsimp only at q
  rw [e, e2] at q
  simp only [Bool.and_eq_true] at q
  obtain ⟨q1, q2, q3, q4, q5, q6⟩ := q
  refine ⟨q1, listF_eq _ _ q2, listF_eq _ _ q3, ?_, q5, ?_, ?_⟩
  · rw [treeF_eq, decide_eq_true_eq] at q4; exact q4
  · cases hst : stepsF (aboveF (grow os) none) 0 os with
    | none => rw [hst] at q6; cases q6
    | some st =>
      rw [hst] at q6
      dsimp only at q6
      rw [eqF_eq, decide_eq_true_eq] at q6
      exact ⟨st, rfl, q6⟩
  · intro h5
    have c := count_of n h5 _ h
    unfold countF at c
    dsimp only at c
    rw [e] at c
    cases hd : divsF (factF n) (grow os).sizes with
    | none => rw [hd] at c; cases c
    | some d =>
      rw [hd] at c
      have c2 := Nat.eq_of_beq_eq_true c
      rw [c2, cntF_eq, treesF]
      congr 1
      rw [List.filter_map, List.length_map]
      congr 1
      refine List.filter_congr fun o ho => ?_
      have := ordersK_mem 6 _ o ho
      simp only [Function.comp, grow_F 7 o (by omega)]
-- the turns of the second loop, one by one
theorem loop2_at {D : List (Int × Option Int)} {os : List Int} : ∀ (i : Nat) (lds r : List Int) (x : Int), loop2F D os lds r = true → r[i]? = some x → turnF D os (layF lds (r.take i)) x = true ∧ layF lds (r.take (i + 1)) = insF (layF lds (r.take i)) x
  | 0, lds, x :: r, y, h, e => by
    simp only [loop2F, Bool.and_eq_true] at h
    cases e
    exact ⟨h.1, rfl⟩
  | i + 1, lds, x :: r, y, h, e => by
    simp only [loop2F, Bool.and_eq_true] at h
    exact loop2_at i (insF lds x) r y h.2 e
  | i, lds, [], y, h, e => by simp at e
end Mine
end

section
namespace Mine
theorem bis_F7 {lds : List Int} {x : Int} (hl : lds.length ≤ 6) : bisF 7 lds x 0 lds.length = bis lds x 0 lds.length := bis_F 7 lds x 0 lds.length (by omega)
theorem ins_F {lds : List Int} {x : Int} (hl : lds.length ≤ 6) : insF lds x = insI lds x := by
  unfold insF insI; rw [bis_F7 hl]
-- the neighbours, as the walk writes them
theorem near_eq (lds : List Int) (pp : Nat) (hp : pp ≤ lds.length) :
    List.take (min (pp : Int).toNat lds.length - (if (pp : Int) - 1 > 0 then (pp : Int) - 1 else 0).toNat) (List.drop (if (pp : Int) - 1 > 0 then (pp : Int) - 1 else 0).toNat lds) ++ List.take (min ((pp : Int) + 1).toNat lds.length - (pp : Int).toNat) (List.drop (pp : Int).toNat lds) = nearL lds pp := by
  have e1 : (if (pp : Int) - 1 > 0 then (pp : Int) - 1 else 0).toNat = pp - 1 := by split <;> omega
  have e2 : (pp : Int).toNat = pp := Int.toNat_natCast pp
  have e3 : ((pp : Int) + 1).toNat = pp + 1 := by omega
  rw [e1, e2, e3, nearL, Nat.min_eq_left hp]
  congr 1
  by_cases h : pp < lds.length
  · rw [Nat.min_eq_left (by omega)]; congr 1; omega
  · rw [List.drop_of_length_le (by omega), List.take_nil, List.take_nil]
theorem turn_near {D : List (Int × Option Int)} {os lds : List Int} {x : Int} (hl : lds.length ≤ 6) (h : turnF D os lds x = true) :
    (nearL lds (bis lds x 0 lds.length) = [] ∧ lookF x D = some none) ∨
    ∃ a r b, nearL lds (bis lds x 0 lds.length) = a :: r ∧ a ∈ os ∧ (a :: r).getD ((a :: r).length - 1) 0 ∈ os ∧ lookF x D = some (some b) ∧
      b = if os.idxOf ((a :: r).getD ((a :: r).length - 1) 0) < os.idxOf a then a else (a :: r).getD ((a :: r).length - 1) 0 := by
  unfold turnF at h
  rw [bis_F7 hl] at h
  cases hn : nearL lds (bis lds x 0 lds.length) with
  | nil =>
    rw [hn] at h
    dsimp only at h
    left
    refine ⟨rfl, ?_⟩
    cases hk : lookF x D with
    | none => rw [hk] at h; cases h
    | some o =>
      rw [hk] at h
      cases o with
      | none => rfl
      | some b => cases h
  | cons a r =>
    rw [hn] at h
    dsimp only at h
    right
    rw [Bool.and_eq_true, Bool.and_eq_true] at h
    obtain ⟨h1, h2, h3⟩ := h
    cases hk : lookF x D with
    | none => rw [hk] at h1; cases h1
    | some o =>
      rw [hk] at h1
      cases o with
      | none => cases h1
      | some b =>
        dsimp only at h1
        rw [eqF_eq, decide_eq_true_eq, idx_F, idx_F, getF_eq] at h1
        rw [getF_eq] at h3
        refine ⟨a, r, b, rfl, mem_F _ _ h2, mem_F _ _ h3, rfl, ?_⟩
        rw [h1]
        by_cases q : os.idxOf ((a :: r).getD ((a :: r).length - 1) 0) < os.idxOf a
        · rw [if_pos q, Nat.blt_eq.mpr q, cond_true]
        · rw [if_neg q, Bool.eq_false_iff.mpr fun z => q (Nat.blt_eq.mp z), cond_false]
theorem lay_len : ∀ (r lds : List Int), (layF lds r).length = lds.length + r.length
  | [], lds => rfl
  | x :: r, lds => by
    rw [layF, lay_len r, insF]
    simp only [List.length_append, List.length_take, List.length_cons, List.length_drop]
    omega
end Mine
end

section
namespace Mine
theorem reach_in (n : Nat) : ∀ (i : Nat) (p : List Int × List Int), p ∈ reach n i → ∀ x, (x ∈ p.1 ∨ x ∈ p.2) → 0 ≤ x ∧ x < n
  | 0, p, h, x, hx => by
    rw [reach, List.mem_singleton] at h; subst h
    rcases hx with hx | hx
    · obtain ⟨i, hi, rfl⟩ := List.mem_map.mp hx
      have := List.mem_range.mp hi
      omega
    · cases hx
  | i + 1, p, h, x, hx => by
    rw [reach] at h
    obtain ⟨q, hq, h⟩ := List.mem_flatMap.mp h
    obtain ⟨j, hj, rfl⟩ := List.mem_map.mp h
    have ih := reach_in n i q hq x
    have hj' := List.mem_range.mp hj
    rcases hx with hx | hx
    · rcases List.mem_append.mp hx with hx | hx
      · exact ih (.inl (List.mem_of_mem_take hx))
      · exact ih (.inl (List.mem_of_mem_drop hx))
    · rcases List.mem_append.mp hx with hx | hx
      · exact ih (.inr hx)
      · rw [List.mem_singleton.mp hx] at ih ⊢
        refine ih (.inl ?_)
        rw [List.getD_eq_getElem?_getD, List.getElem?_eq_getElem hj', Option.getD_some]
        exact List.getElem_mem hj'
theorem weight_small : ∀ l : List Int, (∀ x ∈ l, 0 ≤ x ∧ x < 8) → PyData.weightAll (l.map PyData.int) ≤ l.length * 8
  | [], _ => by simp [PyData.weightAll]
  | x :: r, h => by
    have ih := weight_small r fun y hy => h y (.tail _ hy)
    have hx := h x (.head _)
    have hw : PyData.weight (.int x) ≤ 7 := by
      simp only [PyData.weight]
      split
      · omega
      · rename_i h0
        have h1 : x ≠ 0 := by simpa using h0
        have : x.natAbs.log2 < 4 := (Nat.log2_lt (by omega)).mpr (by omega)
        omega
    simp only [List.map_cons, PyData.weightAll, List.length_cons]
    omega
theorem lay_small (os : List Int) (hl : os.length ≤ 1000) (h : ∀ x ∈ os, 0 ≤ x ∧ x < 8) : (PyData.list (os.map PyData.int)).layable0 = true := by
  have := weight_small os h
  simp only [PyData.layable0, PyData.canLay0, ke_canLayAll0, PyData.depth, ke_depthAll, PyData.weight, Bool.true_and, Bool.and_eq_true, decide_eq_true_eq]
  refine ⟨by omega, ?_⟩
  have h2 : PyData.weightAll (os.map PyData.int) ≤ 8000 := by omega
  exact decide_eq_true (Nat.le_trans h2 (by decide))
theorem lay_reach {n : Nat} (hn : n ≤ 6) {lf os : List Int} (h : (lf, os) ∈ reach n n) : (PyData.list (os.map PyData.int)).layable0 = true := by
  have hl := (reach_len n n _ (Nat.le_refl _) h).2
  dsimp only at hl
  refine lay_small os (by omega) fun x hx => ?_
  have := reach_in n n _ h x (.inr hx)
  omega
end Mine
end

section
namespace Mine
section
variable {c : Cx} {h₀ h h' : Heap} {L : Addr} {m : Str → Option Value} {news : List (Addr × Obj)}
-- a call that hands back a list of ints: the list alone comes onto the ledger
theorem PC.useI {f : Addr} {vs : List Value} {n : Nat} {s : Shared} {ns : List Int} {A : Around} {Q E : Value → Shared → Prop}
    (P : PC c f vs n s (fun tl r => IntsIn tl r ns)) (F : Fr h₀ L s.heap m) (N : News h₀ L s.heap news) (X : (hd.heap_39 c.w.params).In h₀) (T : Top topProg c.loose c.mean c.mg c.mb h₀) (hA : A.handled = none)
    (hd : A.depth + n < recursionLimit) (hu : A.units + 8 * n + 200 < cLine)
    (h : ∀ a ws k h' tk', Fr h₀ L h' m → News h₀ L h' ((a, listOf (ws : List Value).toArray k) :: news) → s.heap.StaysIn h' → IntsAre ws ns → Q (.ref a) { s with heap := h', toks := tk' }) :
    wpAny (model Challenge.rw_gm0006_01.row.prog c.w) A (call (.ref f) vs) Q E s :=
  PC.use2 P F N X T hA hd hu fun r tl h' tk' F' N' M k _ p => by
    cases p with
    | mk hm hi => exact h _ _ _ h' tk' F' (fun q hq => (List.mem_cons.mp hq).elim (fun e => e ▸ M _ hm) (N' q)) k hi
-- a call that hands back a tree
theorem PC.useT {f : Addr} {vs : List Value} {n : Nat} {s : Shared} {t : Tree} {A : Around} {Q E : Value → Shared → Prop}
    (P : PC c f vs n s (fun tl r => TreeIn tl r t)) (F : Fr h₀ L s.heap m) (N : News h₀ L s.heap news) (X : (hd.heap_39 c.w.params).In h₀) (T : Top topProg c.loose c.mean c.mg c.mb h₀) (hA : A.handled = none)
    (hd : A.depth + n < recursionLimit) (hu : A.units + 8 * n + 200 < cLine)
    (h : ∀ r h' tk', Fr h₀ L h' m → News h₀ L h' news → s.heap.StaysIn h' → TreeAt h' r t → Q r { s with heap := h', toks := tk' }) :
    wpAny (model Challenge.rw_gm0006_01.row.prog c.w) A (call (.ref f) vs) Q E s :=
  PC.use2 P F N X T hA hd hu fun r tl h' tk' F' N' M k _ p => h r h' tk' F' N' k (p.at M)
end
end Mine
end

section
namespace Mine
section
variable {prog : Program} {w : World} {A : Around} {E : Value → Shared → Prop} {s : Shared} {env : Env} {h₀ : Heap} {x : Str} {body : List Stmt} {Q : Flow → Shared → Prop}
theorem range_size {a b : Int} {n : Nat} (e : b - a = (n : Int)) : Builtin.Range.rangeSize a b 1 = (n : Int) := by
  unfold Builtin.Range.rangeSize
  rw [if_pos (by decide)]
  split <;> omega
theorem range_small {a b : Int} {n : Nat} (_e : b - a = (n : Int)) (ha : -1000 ≤ a) (ha2 : a ≤ 1000) (hb : -1000 ≤ b) (hb2 : b ≤ 1000) : Builtin.Range.small a b 1 = true :=
  have q1 : -(2 ^ 62) ≤ (-1000 : Int) := by decide
  have q2 : (1000 : Int) < 2 ^ 62 := by decide
  small_one (Int.le_trans q1 ha) (Int.lt_of_le_of_lt ha2 q2) (Int.le_trans q1 hb) (Int.lt_of_le_of_lt hb2 q2)
theorem NoCode.of_range {o : Obj} {x y z : Int} (h : o.data = .fields #[rawInt x, rawInt y, rawInt z]) : NoCode o := fun vs t q e => by
  rw [h] at e; cases e
  show some (rawInt y) ≠ _
  unfold rawInt
  intro e; cases e
-- for x in range(a, b)
theorem my_iter_range {m : Str → Option Value} {news : List (Addr × Obj)} {r : Addr} {a b : Int} {t u v : Tok} {n : Nat} (hh : A.handled = none)
    (F : Fr h₀ env.locals s.heap m) (N : News h₀ env.locals s.heap news) (hr : IsRange s.heap r a b 1 t u v) (hsm : Builtin.Range.small a b 1 = true) (hn : b - a = (n : Int))
    (h : ∀ I it h1, Fr h₀ env.locals h1 m → News h₀ env.locals h1 ((I, it) :: news) → (∀ p ∈ news, p.1 < I) → ∃ J : Nat → (Str → Option Value) → List (Addr × Obj) → Prop,
      J 0 m news ∧
      (∀ i tv m₁ ns it h₁ tk₁, i < n → J i m₁ ns → (∀ p ∈ ns, p.1 ≠ I) → Fr h₀ env.locals h₁ (fun y => if y = x then some (.int (a + i) tv) else m₁ y) → News h₀ env.locals h₁ ((I, it) :: ns) →
        wpAny (model prog w) A (execs body env) (TurnFor Q fun s' => ∃ h' tk m' ns', s' = { s with heap := h', toks := tk } ∧ Fr h₀ env.locals h' m' ∧ News h₀ env.locals h' ((I, it) :: ns') ∧ (∀ p ∈ ns', p.1 ≠ I) ∧ J (i + 1) m' ns') E { s with heap := h₁, toks := tk₁ }) ∧
      (∀ h' tk m' ns, Fr h₀ env.locals h' m' → News h₀ env.locals h' ns → J n m' ns → Q .next { s with heap := h', toks := tk })) :
    wpAny (model prog w) A (pyIter (.ref r)) (fun it s₂ => LoopAtV prog w A h₀ env x body Q E it s₂) E s := by
  refine wpAny_pyIter_range hr hsm ?_
  have hz := range_size hn
  rw [hz]
  have kp : s.heap.StaysIn (s.heap.push { cls := .type "range_iterator", data := .fields #[rawInt a, rawInt (n : Int), rawInt 1] }) := fun b o e => Heap.get?_push_of_some _ e
  have gI := Heap.get?_push_size (o := ({ cls := .type "range_iterator", data := .fields #[rawInt a, rawInt (n : Int), rawInt 1] } : Obj)) s.heap rfl
  generalize hH : s.heap.push { cls := .type "range_iterator", data := .fields #[rawInt a, rawInt (n : Int), rawInt 1] } = H at kp gI ⊢
  have hlt : ∀ p ∈ news, p.1 < s.heap.objs.size := fun p hp => Heap.lt_size (N p hp).1
  have hL : env.locals < s.heap.objs.size := F.ns.lt
  have nI : h₀.get? s.heap.objs.size = none := Heap.get?_none_of_le (Nat.le_of_lt (Nat.lt_of_le_of_lt F.above hL))
  obtain ⟨J, h0, turn, done⟩ := h s.heap.objs.size _ H (F.keeps kp) (fun p hp => by
    rcases List.mem_cons.mp hp with rfl | hp
    · exact ⟨gI, Nat.ne_of_gt hL, nI⟩
    · exact (N.grown kp) p hp) hlt
  refine my_iterVP (K := []) (Walks.range hh s.heap.objs.size a 1 n) (Nat.ne_of_gt hL) nI (fun i h st => ⟨_, st, NoCode.of_range rfl⟩) ?_ ?_ (F.keeps kp) (N.grown kp) (fun p hp => Nat.ne_of_lt (hlt p hp)) J (fun _ _ _ _ p hp => nomatch hp) h0 ?_ ?_
  · intro b hb
    exact .inl (List.mem_singleton.mp hb)
  · show Heap.get? H _ = _
    rw [gI]; simp
  · intro i v m₁ ns it h₁ tk₁ _ hin hP hJ a b c
    obtain ⟨t, rfl⟩ := hP
    rw [Int.mul_one] at b
    exact turn i t m₁ ns it h₁ tk₁ hin hJ a b c
  · intro h' tk m' ns a b c
    exact done h' tk m' ns a b c
end
end Mine
end

section
namespace Mine
theorem tab_extP {g h : Heap} {L P d I : Addr} {m : Str → Option Value} {l c : Nat} {q : Str} {od it : Obj} (F : Fr g L h m) (x : TabOk h P l c q) (hd : h.get? d = some od) (nd : g.get? d = none) (dL : d ≠ L) (hI : h.get? I = some it) (nI : NoCode it) (dI : d ≠ I) :
    ∃ ps cc occ, h.get? P = some (tabObj ps) ∧ h.get? cc = some occ ∧ g.get? cc = none ∧ cc ≠ L ∧ cc ≠ I ∧ ∀ h', g.StaysIn h' → h'.get? P = some (tabObj ps) → h'.get? cc = some occ → TabOk h' P l c q := by
  rcases id x with e | ⟨a, e, b, oc, vs, t, e1, ho, hdd, hv⟩
  · exact ⟨_, d, od, e, hd, nd, dL, dI, fun h' _ e' _ => .inl e'⟩
  · cases e1
    cases hg : g.get? a with
    | none =>
      refine ⟨_, a, oc, e, ho, hg, fun q => ?_, fun q => ?_, fun h' _ e' e2 => .inr ⟨a, e', a, oc, vs, t, rfl, e2, hdd, hv⟩⟩
      · obtain ⟨oL, _, _, hL, hdL, _⟩ := F.ns
        rw [q, hL] at ho; cases ho; rw [hdL] at hdd; cases hdd
      · rw [q, hI] at ho; cases ho
        exact nI _ _ _ hdd hv
    | some o =>
      have := F.keep _ _ hg
      rw [ho] at this; cases this
      exact ⟨_, d, od, e, hd, nd, dL, dI, fun h' k e' _ => .inr ⟨a, e', a, oc, vs, t, rfl, k _ _ hg, hdd, hv⟩⟩
-- what keeps a table's state: its object and one more
noncomputable def TabBy (h₀ : Heap) (P : Addr) (l c : Nat) (q : Str) (ps : Array Value) (a : Addr) (o : Obj) : Prop :=
  ∀ h', h₀.StaysIn h' → h'.get? P = some (tabObj ps) → h'.get? a = some o → TabOk h' P l c q
abbrev By48 (h₀ : Heap) (ps : Array Value) (a : Addr) (o : Obj) : Prop := TabBy h₀ 48 59 4 (Str.ofString "_int2digits.<locals>.inner") ps a o
abbrev By55 (h₀ : Heap) (ps : Array Value) (a : Addr) (o : Obj) : Prop := TabBy h₀ 55 74 4 (Str.ofString "_digits2int.<locals>.inner") ps a o
theorem By48.nil {h₀ : Heap} {a : Addr} {o : Obj} : By48 h₀ #[] a o := fun _ _ e _ => .inl e
theorem By55.nil {h₀ : Heap} {a : Addr} {o : Obj} : By55 h₀ #[] a o := fun _ _ e _ => .inl e
theorem idm_use {c : Cx} {h₀ : Heap} {L I d c1 c2 : Addr} {it od q1 q2 : Obj} {R : List (Addr × Obj)} {p55 p48 : Array Value} {m : Str → Option Value} {a b : Nat} {t1 t2 : Tok} {s : Shared} {A : Around} {Q E : Value → Shared → Prop}
    (ha : a ∣ 720) (hb : 0 < b) (hb2 : b ≤ 6) (F : Fr h₀ L s.heap m) (N : News h₀ L s.heap ((I, it) :: (d, od) :: (c1, q1) :: (c2, q2) :: (R ++ [(55, tabObj p55), (48, tabObj p48)])))
    (K55 : By55 h₀ p55 c1 q1) (K48 : By48 h₀ p48 c2 q2) (nI : NoCode it) (dI : d ≠ I) (hR : ∀ p ∈ (I, it) :: (d, od) :: R, @Ne Nat p.1 55 ∧ @Ne Nat p.1 48)
    (X : (hd.heap_39 c.w.params).In h₀) (T : Top topProg c.loose c.mean c.mg c.mb h₀) (C1 : CodeHd h₀ 59 55) (C2 : CodeHd h₀ 52 48) (hA : A.handled = none) (hdp : A.depth + 62 < recursionLimit) (hu : A.units + 8 * 62 + 200 < cLine)
    (h : ∀ l o u1 u2 c1' q1' c2' q2' p55' p48' h' tk', Fr h₀ L h' m → News h₀ L h' ((l, o) :: (I, it) :: (d, od) :: (c1', q1') :: (c2', q2') :: (R ++ [(55, tabObj p55'), (48, tabObj p48')])) →
      IsTup h' l #[.int ((a / b : Nat) : Int) u1, .int ((a % b : Nat) : Int) u2] → o.cls = .type "tuple" → (∃ nn, o.data = .seq #[.int ((a / b : Nat) : Int) u1, .int ((a % b : Nat) : Int) u2] nn) → c1' ≠ I → c2' ≠ I → By55 h₀ p55' c1' q1' → By48 h₀ p48' c2' q2' → Q (.ref l) { s with heap := h', toks := tk' }) :
    wpAny (model Challenge.rw_gm0006_01.row.prog c.w) A (call (.ref 74) [.int a t1, .int b t2]) Q E s := by
  have m55 : ((55 : Addr), tabObj p55) ∈ (I, it) :: (d, od) :: (c1, q1) :: (c2, q2) :: (R ++ [(55, tabObj p55), (48, tabObj p48)]) := by simp
  have m48 : ((48 : Addr), tabObj p48) ∈ (I, it) :: (d, od) :: (c1, q1) :: (c2, q2) :: (R ++ [(55, tabObj p55), (48, tabObj p48)]) := by simp
  have h55 := N _ m55
  have h48 := N _ m48
  refine idm_pm c a b t1 t2 s ha hb hb2 (Cx.At2.keeps ⟨X, T, C1, C2⟩ fun b o e => hideAll_get _ (F.keep _ _ e) fun q => ?_) (K48 _ F.keep h48.1 (N (c2, q2) (by simp)).1) (K55 _ F.keep h55.1 (N (c1, q1) (by simp)).1) A Q E hA hdp hu ?_
  · rcases List.mem_cons.mp q with rfl | q
    · rw [h55.2.2] at e; cases e
    · rw [List.mem_singleton.mp q, h48.2.2] at e; cases e
  rintro r h' tk' kb ⟨p48', p55', l, u1, u2, rfl, hl, hT⟩
  have F' := fr_but F N kb fun a ha => by
    rcases List.mem_cons.mp ha with rfl | ha
    · exact List.mem_map_of_mem m55
    · rw [List.mem_singleton.mp ha]; exact List.mem_map_of_mem m48
  have N1 : News h₀ L h' ((I, it) :: (d, od) :: R) := news_but N kb fun p hp => ⟨by
    rcases List.mem_cons.mp hp with rfl | hp
    · simp
    rcases List.mem_cons.mp hp with rfl | hp
    · simp
    · simp [hp], fun q => by
    rcases List.mem_cons.mp q with e | q
    · exact (hR p hp).1 e
    · exact (hR p hp).2 (List.mem_singleton.mp q)⟩
  have nI1 := N1 (I, it) (by simp)
  have nd1 := N1 (d, od) (by simp)
  obtain ⟨ps, c1', q1', e55, hq1, g1, l1, i1, K1⟩ := tab_extP F' p55' nd1.1 nd1.2.2 nd1.2.1 nI1.1 nI dI
  obtain ⟨ps', c2', q2', e48, hq2, g2, l2, i2, K2⟩ := tab_extP F' p48' nd1.1 nd1.2.2 nd1.2.1 nI1.1 nI dI
  obtain ⟨o, ho, hc, nn, hdt⟩ := id hT
  have N0 := news_new F (news_more (news_more (news_more (news_more N1 e48 h48.2.1 h48.2.2) e55 h55.2.1 h55.2.2) hq2 l2 g2) hq1 l1 g1) hl ho
  refine h l o u1 u2 c1' q1' c2' q2' ps ps' h' tk' F' (fun p hp => N0 p ?_) hT hc ⟨nn, hdt⟩ i1 i2 K1 K2
  rcases List.mem_cons.mp hp with rfl | hp
  · exact .head _
  refine .tail _ ?_
  rcases List.mem_cons.mp hp with rfl | hp
  · exact .tail _ (.tail _ (.tail _ (.tail _ (.head _))))
  rcases List.mem_cons.mp hp with rfl | hp
  · exact .tail _ (.tail _ (.tail _ (.tail _ (.tail _ (.head _)))))
  rcases List.mem_cons.mp hp with rfl | hp
  · exact .head _
  rcases List.mem_cons.mp hp with rfl | hp
  · exact .tail _ (.head _)
  rcases List.mem_append.mp hp with hp | hp
  · exact .tail _ (.tail _ (.tail _ (.tail _ (.tail _ (.tail _ hp)))))
  rcases List.mem_cons.mp hp with rfl | hp
  · exact .tail _ (.tail _ (.head _))
  · rw [List.mem_singleton.mp hp]; exact .tail _ (.tail _ (.tail _ (.head _)))
end Mine
end

section
namespace Mine
theorem ints_det {vs : List Value} {ns : List Int} (h : IntsAre vs ns) : ∀ ms, IntsAre vs ms → ns = ms := by
  induction h with
  | nil => intro ms h; cases h; rfl
  | cons n t _ ih => intro ms h; cases h with | cons _ _ h => rw [ih _ h]
end Mine
end

section
namespace Mine
section
variable {prog : Program} {w : World} {A : Around} {E : Value → Shared → Prop} {s : Shared} {env : Env} {h₀ : Heap} {L : Addr} {m : Str → Option Value} {news : List (Addr × Obj)}
-- a comprehension with one clause; which items stay may hang on the state behind the source
theorem list_comp_p {elt iter : Expr} {x : Str} {px : Pos} {ifs : List Expr} {scope : Scope} {cl : List (Str × Addr)} {pos : Pos} {Q : Value → Shared → Prop} (K : Value → Value → Prop)
    (hclos : closureFor scope env = pure cl) (hcell : ∀ y ∈ scope.names, y.2 ≠ .cell) (hkind : scope.kind = .function)
    (hnames : ∀ y ∈ scope.names, y.2 = .local → scope.names.lookup y.1 = some .local) (hx : scope.names.lookup x = some .local)
    (h : wpAny (model prog w) A (eval iter env) (fun xv s₁ => wpAny (model prog w) A (pyIter xv) (fun it s₂ => ∃ p I fp wr n P St, it = .ref I ∧ Walks prog w A I fp wr n P St ∧ n ≤ sizeLine ∧ St 0 s₂.heap ∧ (∀ b ∈ fp, b < s₂.heap.objs.size) ∧
      QuietOnC prog w A env scope cl x ifs elt wr P p K s₂ ∧
      (∀ D h' tk ys (vs : List Value), s₂.heap.get? D = none → h'.IsList D ys → h'.PlainList D ys → vs.length = n → (∀ j v, vs[j]? = some v → P j v) → Paired K (vs.filter p) ys.toList →
        (∀ b o, b ∉ wr → s₂.heap.get? b = some o → h'.get? b = some o) → Q (.ref D) { s₂ with heap := h', toks := tk })) E s₁) E s)
    (hs : ∀ x, foldedSetIterable iter env x = pure x) :
    wpAny (model prog w) A (eval (.ListComp elt [⟨.Name x px, iter, ifs, 0⟩] scope pos) env) Q E s := by
  rw [eval_ListComp]
  refine wpAny_comprehension_free (use := none) rfl hs hclos hkind hnames (wpAny_mono h (fun xv s₁ h₁ => wpAny_mono h₁ (fun it s₂ h₂ => ?_) fun _ _ e => e) fun _ _ e => e)
  obtain ⟨p, I, fp, wr, n, P, St, rfl, W, hsz, hst, hfp, hq, hQ⟩ := h₂
  refine comp_block_walkC (RR := fun acc C => compPost (model prog w) A E none Q acc C) W hsz p K hcell hkind hx hst hfp hq ?_
  intro D C h' tk m' ys vs hD hC hDC hn hl hpl hlen hP hF hk
  exact ⟨m', hn, fun h'' hs'' => hQ D h'' tk ys vs hD (hl.extBut hs''.extBut hDC) (hpl.extBut hs''.extBut hDC) hlen hP hF fun b o hbf e => hs''.extBut b o (by rintro rfl; rw [hC] at e; cases e) (hk b o hbf e)⟩
-- the same, where the list comes out of a call
theorem comp_filterG {x : Str} {px px2 : Pos} {iter test : Expr} {scope : Scope} {cl : List (Str × Addr)} {pos : Pos} {Q : Value → Shared → Prop} (G : Addr → List Value → Heap → Prop) (p : Heap → Value → Bool)
    (hclos : closureFor scope env = pure cl) (hcell : ∀ y ∈ scope.names, y.2 ≠ .cell) (hkind : scope.kind = .function)
    (hnames : ∀ y ∈ scope.names, y.2 = .local → scope.names.lookup y.1 = some .local) (hx : scope.names.lookup x = some .local) (hxd : (x == ("__debug__" : Str)) = false) (hh : A.handled = none)
    (hs : ∀ x, foldedSetIterable iter env x = pure x)
    (hiter : ∀ (Q' : Value → Shared → Prop), (∀ a vs h₁ tk₁, Fr h₀ L h₁ m → News h₀ L h₁ news → h₁.IsList a (vs : List Value).toArray → vs.length ≤ 100000 → G a vs h₁ → Q' (.ref a) { s with heap := h₁, toks := tk₁ }) → wpAny (model prog w) A (eval iter env) Q' E s)
    (htest : ∀ a vs h₁ C oC v s₃ m₃ (E' : Value → Shared → Prop), G a vs h₁ → v ∈ vs → LCg.NsObj oC m₃ → m₃ x = some v → Fr h₀ L s₃.heap m → News h₀ L s₃.heap ((C, oC) :: news) → h₁.StaysIn s₃.heap →
      wpAny (model prog w) A (isTrue test (compEnvC scope cl C env) (eval test (compEnvC scope cl C env))) (fun ok s₄ => ok = p h₁ v ∧ Keeps s₃ s₄) E' s₃)
    (h : ∀ a vs h₁ D h' tk k, G a vs h₁ → Fr h₀ L h' m → News h₀ L h' ((D, listOf (vs.filter (p h₁)).toArray k) :: news) → (∀ q ∈ news, q.1 ≠ D) → Q (.ref D) { s with heap := h', toks := tk }) :
    wpAny (model prog w) A (eval (.ListComp (.Name x px) [⟨.Name x px2, iter, [test], 0⟩] scope pos) env) Q E s := by
  refine list_comp_p (fun v y => y = v) hclos hcell hkind hnames hx ?_ hs
  refine hiter _ fun a vs h₁ tk₁ F₁ N₁ hl hsz hG => ?_
  refine wpAny_pyIter_list hl ?_
  obtain ⟨ol, hol, hol'⟩ := id hl
  have hax : a < h₁.objs.size := Heap.lt_size hol
  have hlen : vs.toArray.size = vs.length := by simp
  have st : h₁.StaysIn (h₁.push { cls := .type "list_iterator", data := .fields #[.ref a, .int 0 0] }) := fun b o e => Heap.get?_push_of_some _ e
  have keepI : ∀ h', (∀ b o, b ∉ [h₁.objs.size] → (h₁.push { cls := .type "list_iterator", data := .fields #[.ref a, .int 0 0] }).get? b = some o → h'.get? b = some o) → h₁.StaysIn h' :=
    fun h' k b o e => k b o (by simpa using Nat.ne_of_lt (Heap.lt_size e)) (st b o e)
  refine ⟨p h₁, h₁.objs.size, [h₁.objs.size, a], [h₁.objs.size], vs.toArray.size, _, _, rfl, Walks.list hh h₁.objs.size a (Nat.ne_of_lt hax) vs.toArray, by rw [hlen]; exact Nat.le_trans hsz (by decide), ?_, ?_, ?_, ?_⟩
  · exact ⟨⟨_, Heap.get?_push_size _ rfl, rfl, rfl⟩, stays_list st hl⟩
  · intro b hb
    show b < (h₁.push _).objs.size
    rw [Heap.size_push]
    rcases List.mem_cons.mp hb with rfl | hb
    · exact Nat.lt_succ_self _
    · rw [List.mem_singleton.mp hb]; exact Nat.lt_succ_of_lt hax
  · have item : ∀ (i : Nat) (v : Value), vs.toArray[i]? = some v → v ∈ vs := fun i v hv => by
      rw [List.getElem?_toArray] at hv
      exact List.mem_of_getElem? hv
    constructor
    · intro C i v s₃ m₃ E' hC hv hn hm hk _
      have hmem := item i v hv
      obtain ⟨oC, eC, hoC⟩ := LCg.ns_obj hn
      have hC9 : (h₁.push { cls := .type "list_iterator", data := .fields #[.ref a, .int 0 0] }).objs.size ≤ C := hC
      rw [Heap.size_push] at hC9
      have hC' : h₁.get? C = none := Heap.get?_none_of_le (Nat.le_of_succ_le hC9)
      refine wpAny_tests_one (htest a vs h₁ C oC v s₃ m₃ E' hG hmem hoC hm (F₁.keeps (keepI _ hk)) (fun q hq => ?_) (keepI _ hk))
      rcases List.mem_cons.mp hq with rfl | hq
      · refine ⟨eC, fun e => ?_, ?_⟩
        · obtain ⟨oL, _, _, hL, _⟩ := F₁.ns
          have e' : C = L := e
          rw [← e', hC'] at hL; cases hL
        · cases q : h₀.get? C with
          | none => rfl
          | some o => rw [F₁.keep _ _ q] at hC'; cases hC'
      · exact ⟨keepI _ hk _ _ (N₁ q hq).1, (N₁ q hq).2⟩
    · intro C i v s₃ m₃ E' hC hv hp hn hm hk _
      exact wpAny_Name (wpAny_loadName_local (by simp [compEnvC, relabel, hkind]) (lookup_relabel_local hx) hn hm ⟨rfl, _, _, rfl, fun _ _ e => e⟩) hxd
  · intro D h' tk ys us hD hlD hpl hlen2 hP hF hk
    have e1 : us = vs := by
      refine List.ext_getElem? fun j => ?_
      by_cases hj : j < us.length
      · have h1 : us[j]? = some us[j] := List.getElem?_eq_getElem hj
        have h2 := hP j _ h1
        rw [List.getElem?_toArray] at h2
        rw [h1, h2]
      · rw [List.getElem?_eq_none (Nat.not_lt.mp hj), List.getElem?_eq_none (by rw [hlen2, List.size_toArray] at hj; omega)]
    subst e1
    have e2 := paired_eq hF
    obtain ⟨k, hgD⟩ := hpl
    have kk := keepI h' hk
    have hD' : h₁.get? D = none := by
      cases q : h₁.get? D with
      | none => rfl
      | some o => have := st _ _ q; rw [hD] at this; cases this
    refine h a us h₁ D h' tk k hG (F₁.keeps kk) (fun q hq => ?_) (fun q hq e => by have := (N₁ q hq).1; rw [e, hD'] at this; cases this)
    rcases List.mem_cons.mp hq with rfl | hq
    · refine ⟨?_, ?_, ?_⟩
      · rw [hgD]; rw [← e2]
      · intro e
        obtain ⟨oL, _, _, hL, _⟩ := F₁.ns
        rw [← e, hD'] at hL; cases hL
      · cases q : h₀.get? D with
        | none => rfl
        | some o => rw [F₁.keep _ _ q] at hD'; cases hD'
    · exact ⟨kk _ _ (N₁ q hq).1, (N₁ q hq).2⟩
end
-- does the test hold of the list of ints that stands at the value?
noncomputable def picksH (P : List Int → Bool) (h : Heap) (v : Value) : Bool := @decide (∃ a vs n ms, v = .ref a ∧ h.get? a = some (listOf (vs : List Value).toArray n) ∧ IntsAre vs ms ∧ P ms = true) (Classical.propDecidable _)
theorem picksH_eq {H0 h : Heap} {D : Addr} {v : Value} {ms : List Int} {P : List Int → Bool} (x : Elem H0 D h v ms) : picksH P h v = P ms := by
  obtain ⟨a, vs, n, rfl, _, _, hg, hi⟩ := x
  unfold picksH
  cases hp : P ms with
  | true => exact @decide_eq_true _ (Classical.propDecidable _) ⟨a, vs, n, ms, rfl, hg, hi, hp⟩
  | false =>
    refine @decide_eq_false _ (Classical.propDecidable _) fun ⟨a', vs', n', ms', e, hg', hi', hq⟩ => ?_
    cases e
    rw [hg] at hg'
    have e2 := Option.some.inj hg'
    simp only [W.listOf, Obj.mk.injEq, Data.seq.injEq] at e2
    have e3 : vs = vs' := by simpa using e2.2.2.1.1
    subst e3
    rw [ints_det hi _ hi', hq] at hp; cases hp
theorem picksH_count {H0 h : Heap} {D : Addr} {us : List Value} {yss : List (List Int)} {P : List Int → Bool} (x : AllAre (Elem H0 D h) us yss) : (us.filter (picksH P h)).length = (yss.filter P).length := by
  induction x with
  | nil => rfl
  | cons r _ ih =>
    rw [List.filter_cons, List.filter_cons, picksH_eq r]
    split <;> simp [ih]
theorem AllAre.mem {α β : Type} {R : α → β → Prop} {l : List α} {k : List β} (x : AllAre R l k) {a : α} (ha : a ∈ l) : ∃ b ∈ k, R a b := by
  induction x with
  | nil => cases ha
  | cons r _ ih =>
    rcases List.mem_cons.mp ha with rfl | ha
    · exact ⟨_, .head _, r⟩
    · obtain ⟨b, hb, h⟩ := ih ha
      exact ⟨b, .tail _ hb, h⟩
end Mine
end

section
namespace Mine
section
variable {prog : Program} {w : World} {A : Around} {E : Value → Shared → Prop} {s : Shared} {env : Env} {test : PySem.Expr} {body : List Stmt} {Q : Flow → Shared → Prop} {pos : Pos}
theorem my_whileP (pass : PassesOwn (model prog w) A env E) (I : Nat → Shared → Prop)
    (turn : ∀ n s, I n s → wpAny (model prog w) A (isTrue test env (eval test env)) (fun b s₂ => if b = true then wpAny (model prog w) A (execs body env) (TurnEnd Q (fun s' => ∃ k, k < n ∧ I k s')) E s₂ else Q .next s₂) E s)
    (n : Nat) (h : I n s) : wpAny (model prog w) A (exec (.While test body [] pos) env) Q E s := by
  have all : ∀ n, ∀ k, k < n → ∀ s, I k s → ∀ j, WhlRest prog w A E env test body [] Q j s := by
    intro n
    induction n with
    | zero => intro k hk; exact absurd hk (Nat.not_lt_zero _)
    | succ n ih =>
      intro k hk s hI j
      refine whl_turn (k := j) pass (wpAny_mono (turn k s hI) (fun b s₂ h₂ => ?_) fun _ _ x => x)
      cases b with
      | false => exact WhlIf.no rfl (wpAny_pure (by simpa using h₂))
      | true =>
        refine WhlIf.yes rfl (wpAny_mono (by simpa using h₂) (fun f s₃ h₃ => ?_) fun _ _ x => x)
        cases f with
        | next => obtain ⟨k', hk', hI'⟩ := h₃; exact ih k' (by omega) _ hI' j
        | cont => obtain ⟨k', hk', hI'⟩ := h₃; exact ih k' (by omega) _ hI' j
        | brk => exact h₃
        | ret v => exact h₃
  exact whl_start 0 (all (n + 1) n (Nat.lt_succ_self _) s h 0)
end
end Mine
end
end

namespace Mine
-- a fact that omega shall not see
structure Hidden (P : Prop) : Prop where
  mk :: (out : P)
structure StopIf : Prop where
  mk ::
structure StopCall : Prop where
  mk ::
theorem Halt.by2 {P : Prop} (_ : StopCall) (h : Halt P) : P := h.out
theorem Halt.by {P : Prop} (_ : StopIf) (h : Halt P) : P := h.out
theorem news_thin {g h : Heap} {L : Addr} {p1 p2 p3 p4 p5 p6 p7 x y z : Addr × Obj} {r : List (Addr × Obj)} (N : News g L h (p1 :: p2 :: p3 :: p4 :: p5 :: p6 :: p7 :: x :: y :: z :: r)) : News g L h (p1 :: p2 :: p3 :: p4 :: p5 :: p6 :: p7 :: y :: r) := fun p hp => N p (by
  rcases List.mem_append.mp (show p ∈ [p1, p2, p3, p4, p5, p6, p7] ++ (y :: r) from hp) with h | h
  · exact List.mem_append_left (x :: y :: z :: r) h
  · refine List.mem_append_right [p1, p2, p3, p4, p5, p6, p7] (.tail _ ?_)
    rcases List.mem_cons.mp h with rfl | h
    · exact .head _
    · exact .tail _ (.tail _ h))
theorem fact_step (i : Nat) : ((factF i : Nat) : Int) * (1 + (i : Int)) = ((factF (i + 1) : Nat) : Int) := by
  rw [factF, Int.natCast_mul, Int.mul_comm]; congr 1; omega
theorem fact_le : ∀ i, i ≤ 5 → factF i ≤ 120
  | 0, _ => by decide
  | 1, _ => by decide
  | 2, _ => by decide
  | 3, _ => by decide
  | 4, _ => by decide
  | 5, _ => by decide
  | i + 6, h => absurd h (by omega)
theorem divs_step {d : Nat} {z : Int} {r : List Int} {f : Nat} (h : divsF d (z :: r) = some f) : d ∣ 720 ∧ ∃ b : Nat, z = b ∧ 0 < b ∧ b ≤ 6 ∧ d % b = 0 ∧ divsF (d / b) r = some f := by
  unfold divsF at h
  cases hc : (Nat.beq (720 % d) 0 && (Nat.ble 1 z.toNat && (Nat.ble z.toNat 6 && Nat.beq (d % z.toNat) 0))) with
  | false => rw [hc] at h; cases h
  | true =>
    rw [hc] at h
    simp only [Bool.and_eq_true] at hc
    obtain ⟨h1, h2, h3, h4⟩ := hc
    have h2 := Nat.le_of_ble_eq_true h2
    have h3 := Nat.le_of_ble_eq_true h3
    exact ⟨Nat.dvd_of_mod_eq_zero (Nat.eq_of_beq_eq_true h1), z.toNat, by omega, by omega, h3, Nat.eq_of_beq_eq_true h4, h⟩
theorem apart_swap {I c1 c2 c1' c2' : Addr} {x : Addr × Obj} {q1 q2 q1' q2' : Obj} {R : List (Addr × Obj)} {a b a' b' : Obj} (hoff : ∀ p ∈ x :: (c1, q1) :: (c2, q2) :: (R ++ [(55, a), (48, b)]), p.1 ≠ I) (h1 : c1' ≠ I) (h2 : c2' ≠ I) :
    ∀ p ∈ x :: (c1', q1') :: (c2', q2') :: (R ++ [(55, a'), (48, b')]), p.1 ≠ I := fun p hp => by
  rcases List.mem_cons.mp hp with rfl | hp
  · exact hoff _ (.head _)
  rcases List.mem_cons.mp hp with rfl | hp
  · exact h1
  rcases List.mem_cons.mp hp with rfl | hp
  · exact h2
  rcases List.mem_append.mp hp with hp | hp
  · exact hoff _ (.tail _ (.tail _ (.tail _ (List.mem_append_left _ hp))))
  rcases List.mem_cons.mp hp with rfl | hp
  · exact hoff (55, a) (.tail _ (.tail _ (.tail _ (List.mem_append_right _ (.head _)))))
  · rw [List.mem_singleton.mp hp]
    exact hoff (48, b) (.tail _ (.tail _ (.tail _ (List.mem_append_right _ (.tail _ (.head _))))))
theorem len_plain {prog : Program} {w : World} {A : Around} {E : Value → Shared → Prop} {s : Shared} {l : Addr} {vs : List Value} {d : Nat} {Q : Value → Shared → Prop} (hl : s.heap.IsList l vs.toArray) (e : vs.length = d) (hd : d ≤ 100000)
    (h : Q (.int (d : Int) (s.toks + 1)) { s with toks := s.toks + 1 + 1 }) : wpAny (model prog w) A (call (.builtin "len") [.ref l]) Q E s := by
  subst e
  have e2 : vs.toArray.size = vs.length := by simp
  refine call_len_list hl ?_ ?_
  · rw [e2]; exact Int.lt_of_le_of_lt (b := 100000) (by omega) (by decide)
  · rw [e2]; exact h
-- the value is None or the int
noncomputable def IsO (v : Value) : Option Int → Prop
  | none => v = .none
  | some b => ∃ t, v = .int b t
theorem steps_step {D : List (Int × Option Int)} {st f : Nat} {x : Int} {r : List Int} (h : stepsF D st (x :: r) = some f) : ∃ hp st', lookF x D = some hp ∧ upF D 8 hp st = some st' ∧ stepsF D st' r = some f := by
  unfold stepsF at h
  cases h1 : lookF x D with
  | none => rw [h1] at h; cases h
  | some hp =>
    rw [h1] at h
    dsimp only at h
    cases h2 : upF D 8 hp st with
    | none => rw [h2] at h; cases h
    | some st' => rw [h2] at h; exact ⟨hp, st', rfl, h2, h⟩
theorem up_none {D : List (Int × Option Int)} {k st f : Nat} (h : upF D k none st = some f) : st = f := by
  cases k with
  | zero => cases h
  | succ k => exact Option.some.inj h
theorem up_some {D : List (Int × Option Int)} {k st f : Nat} {b : Int} (h : upF D k (some b) st = some f) : st < 99 ∧ ∃ hp k', lookF b D = some hp ∧ k' < k ∧ upF D k' hp (st + 1) = some f := by
  cases k with
  | zero => cases h
  | succ k =>
    unfold upF at h
    cases h0 : Nat.blt st 99 with
    | false => rw [h0] at h; cases h
    | true =>
      rw [h0] at h
      refine ⟨Nat.blt_eq.mp h0, ?_⟩
      cases h1 : lookF b D with
      | none => rw [h1] at h; cases h
      | some hp => rw [h1] at h; exact ⟨hp, k, rfl, Nat.lt_succ_self _, h⟩
theorem isO_of (g : Heap) {v : Value} {o : Option Int} (h : PyProof.V.Flat v (encO o)) : IsO v o := by
  have q := h g
  cases o with
  | none => simp only [encO] at q; cases q; rfl
  | some b => simp only [encO] at q; cases q; exact ⟨_, rfl⟩
theorem cast_step (n : Nat) : (n : Int) + 1 = ((n + 1 : Nat) : Int) := rfl
theorem sum_F : ∀ l : List Int, sumF l = l.sum
  | [] => rfl
  | x :: r => by rw [sumF, List.sum_cons, sum_F r]
section
local macro_rules
  | `(tactic| walk_at "eval Name") => `(tactic| (k_here; k_dflt (refine' nameX_L ?k1 ?k2 ?_ ?ka ?kb; (case ka => rfl); (case kb => rfl); (case k1 => k_asm); (case k2 => (repeat (first | with_reducible assumption | exact if_pos rfl | (refine Mine.look_skip (by decide) ?_)))); k_whole)))
local macro_rules
  | `(tactic| walk_at "pyIter ref") => `(tactic| ((with_reducible show wpAny _ _ (pyIter (Value.ref _)) (fun it s₂ => LoopAtV _ _ _ _ _ _ _ _ _ it s₂) _ _); refine Mine.Halt.out ?_))
  | `(tactic| walk_at "exec For Name Subscript cons nil") => `(tactic| refine Mine.Halt.out ?_)
  | `(tactic| walk_at "call ref") => `(tactic| refine Mine.Halt.out ?_)
  | `(tactic| walk_at "exec For Name Call cons nil") => `(tactic| refine Mine.Halt.out ?_)
  | `(tactic| walk_at "eval ListComp") => `(tactic| refine Mine.Halt.out ?_)
  | `(tactic| walk_at "exec While BoolOp cons nil") => `(tactic| refine Mine.Halt.out ?_)
  | `(tactic| walk_at "exec For Name Name cons nil") => `(tactic| refine Mine.Halt.out ?_)
local macro_rules
  | `(tactic| walk_at "exec If") => `(tactic| refine Mine.Halt.by (by with_reducible assumption) ?_)
  | `(tactic| walk_at "call type:list") => `(tactic| refine Mine.Halt.by2 (by with_reducible assumption) ?_)
  | `(tactic| walk_at "call builtin:len") => `(tactic| refine Mine.Halt.by2 (by with_reducible assumption) ?_)
set_option maxHeartbeats 100000000 in
theorem law_ok : PySem.Challenge.rw_gm0006_01.Holds := hd (by
  k_go0
  (all_goals try k_fold)
  k_steps
  refine ⟨?_⟩
  (rename Fr _ _ _ _ => F0)
  refine' For_invVF F0 ?k1S0 ?k2S0 ?k3S0 ?k4S0 ?k5S0
  case k1S0 => exact rfl
  case k2S0 => exact rfl
  case k4S0 => intro _; rfl
  case k5S0 => passes_own
  k_steps
  refine ⟨?_⟩
  rename_i Dl vsl cl hA tkA hIl lA Do hB lB Dt hC lC hD1 hE hF1 Dn wsn hG F4 N4 hIn hCn hLn lE
  (rename List Int => W); (rename Shared => s1); (rename Obj => oT)
  have hn1 : ((if (W.length : Int) < 6 then (W.length : Int) else 6) - 0).toNat = min 6 W.length := by split <;> omega
  rw [hn1] at hIl
  generalize hnn : min 6 W.length = n at hIl hCn
  have hn6 : n ≤ 6 := by omega
  have hr0 : rangeKs 0 n = (List.range n).map fun (i : Nat) => (i : Int) := by
    unfold rangeKs; congr 1; funext i; omega
  rw [hr0] at hIl
  generalize hW6 : List.take 6 W = W6 at hIn hCn
  refine' my_iter_list rfl ?FFS0 ?NNS0 ?mmS0 ?hhS0
  case FFS0 => exact F4
  case NNS0 => exact news_drop2 N4
  case mmS0 => exact List.mem_cons_self ..
  intro I it h1 F5 N5 lI
  clear F5 N5
  have hwl := hIn.length
  k_lt lI
  refine ⟨fun i m ns => ∃ (lf os : List Int) (wl wo : List Value) (kl ko : Nat), ns = [(Dn, listOf wsn.toArray 0), (Do, listOf wo.toArray ko), (Dl, listOf wl.toArray kl), (s1.heap.objs.size + 1, oT), (55, tabObj #[]), (48, tabObj #[])] ∧
    m "left" = some (.ref Dl) ∧ m "order" = some (.ref Do) ∧ IntsAre wl lf ∧ IntsAre wo os ∧ (lf, os) ∈ reach n i, ?_, ?_, ?_, ?_⟩
  · rintro i m ns ⟨lf, os, wl, wo, kl, ko, rfl, _⟩; k_mem
  · exact ⟨_, [], _, [], _, _, rfl, rfl, rfl, hIl, .nil, List.mem_singleton.mpr rfl⟩
  · clear F4 N4
    rintro i v m ns it2 h5 tk5 hv ⟨lf, os, wl, wo, kl, ko, rfl, m1, m2, hl5, ho5, hr5⟩ hoff F5 N5
    obtain ⟨nv, tv, rfl, hnv⟩ := IntsAre.at hIn i v hv
    have hi : i < n := by
      false_or_by_contra
      rw [List.getElem?_eq_none (by omega)] at hv; cases hv
    obtain ⟨hlf, hos⟩ := reach_len n i _ (by omega) hr5
    dsimp only at hlf hos
    have hlw := hl5.length
    have how := ho5.length
    have hlz : (lf.length : Int) ≠ 0 := by omega
    k_steps
    obtain ⟨j, hje, hj⟩ : ∃ j : Nat, nv.fmod (lf.length : Int) = (j : Int) ∧ j < lf.length := by
      have p1 : (0 : Int) < lf.length := by omega
      have p2 := Int.fmod_nonneg_of_pos nv p1
      have p3 := Int.fmod_lt_of_pos nv p1
      exact ⟨(nv.fmod lf.length).toNat, by omega, by omega⟩
    rw [hje]
    obtain ⟨ty, hy⟩ := IntsAre.get hl5 j (lf.getD j 0) (by simp [List.getD, List.getElem?_eq_getElem hj])
    (rename Fr _ _ _ _ => F6); (rename News _ _ _ _ => N6)
    refine' kl_popAt (k := j) (p := wl.take j) (q := wl.drop (j + 1)) (y := .int (lf.getD j 0) ty) F6 N6 (fits_small (by omega)) (seqIndex_nat (by rw [List.size_toArray]; omega)) (cut_ok wl j _ hy) ?uu ?zz ?_
    case uu => k_upd
    case zz => exact Nat.le_trans (m := 100) (by simp only [List.toList_toArray]; omega) (by decide)
    intro h7 F7 N7
    k_steps
    (rename Fr _ _ _ _ => F8); (rename News _ _ _ _ => N8)
    refine ⟨_, _, _, _, rfl, F8, N8, ?_, lf.take j ++ lf.drop (j + 1), os ++ [lf.getD j 0], wl.take j ++ wl.drop (j + 1), wo ++ [.int (lf.getD j 0) ty], kl + 1, ko + 1, ?_, ?_, ?_, ?_, ?_, reach_step hr5 hj⟩
    · ((repeat (first | exact apart_nil | (refine apart_cons (by omega) ?_))))
    · rw [show (wo ++ [Value.int (lf.getD j 0) ty]).toArray = wo.toArray.push (.int (lf.getD j 0) ty) by simp]
    · ((repeat (first | with_reducible assumption | exact if_pos rfl | (refine look_skip (by decide) ?_))))
    · ((repeat (first | with_reducible assumption | exact if_pos rfl | (refine look_skip (by decide) ?_))))
    · exact (ints_take hl5 _).append (ints_drop hl5 _)
    · exact ho5.append (.cons _ _ .nil)
  · clear F4 N4
    rintro h5 tk5 m ns F5 N5 ⟨lf, os, wl, wo, kl, ko, rfl, m1, m2, hl5, ho5, hr5⟩
    rw [hwl, hCn] at hr5
    obtain ⟨hlf, hos⟩ := reach_len n n _ (Nat.le_refl _) hr5
    dsimp only at hlf hos
    have how := ho5.length
    clear lI hLn hn1 lC hwl hnn
    k_steps
    refine ⟨?_⟩
    (rename Fr _ _ _ _ => F6); (rename News _ _ _ _ => N6); (rename Frag.In _ _ => X0); (rename Top _ _ _ _ _ _ => T0)
    have hsz := grow_size n os (by omega)
    refine PC.use2 (c := ⟨_, _, _, _, _⟩) (grown_pc ⟨_, _, _, _, _⟩ os _ _ (by omega) ⟨Do, wo, rfl, N6.isList (.tail _ (.head _)), ho5⟩) F6 N6 X0 T0 rfl (by have cD := callerDepth; have cU := callerUnits; dsimp only [Around.deeper]; omega) (by have cD := callerDepth; have cU := callerUnits; dsimp only [Around.deeper]; omega) ?_
    intro r7 tl7 h7 tk7 F7 N7 M7 k7 ne7 p7
    obtain ⟨a1, o1, a2, o2, a3, o3, a4, o4, a5, o5, a6, o6, ht7, hs7⟩ := p7.pad (by omega) (Dn, listOf wsn.toArray 0)
    have nc1 : ∀ p ∈ [(a1, o1), (a2, o2), (a3, o3), (a4, o4), (a5, o5), (a6, o6)], @Ne Nat p.1 (s1.heap.objs.size + 1) ∧ @Ne Nat p.1 55 ∧ @Ne Nat p.1 48 := fun p hp => by
      rcases hs7 p hp with h | rfl
      · exact ⟨Ne.symm (ne7 (s1.heap.objs.size + 1, oT) (by k_mem) p h), Ne.symm (ne7 (55, tabObj #[]) (by k_mem) p h), Ne.symm (ne7 (48, tabObj #[]) (by k_mem) p h)⟩
      · exact ⟨Nat.ne_of_gt (by omega), Nat.ne_of_gt (by omega), Nat.ne_of_gt (by omega)⟩
    have N8 : News (ghostOf s1.heap [(59, 55), (52, 48)]) s1.heap.objs.size h7 [(a1, o1), (a2, o2), (a3, o3), (a4, o4), (a5, o5), (a6, o6), (Dn, listOf wsn.toArray 0), (Do, listOf wo.toArray ko), (Dl, listOf wl.toArray kl), (s1.heap.objs.size + 1, oT), (55, tabObj #[]), (48, tabObj #[])] := fun p hp => by
      rcases List.mem_append.mp (show p ∈ [(a1, o1), (a2, o2), (a3, o3), (a4, o4), (a5, o5), (a6, o6)] ++ [(Dn, listOf wsn.toArray 0), (Do, listOf wo.toArray ko), (Dl, listOf wl.toArray kl), (s1.heap.objs.size + 1, oT), (55, tabObj #[]), (48, tabObj #[])] from hp) with h | h
      · rcases hs7 p h with h | rfl
        · exact M7 p h
        · exact N7 _ (.head _)
      · exact N7 p h
    clear N7 M7
    have b1 := (nc1 (a1, o1) (by k_mem)).1
    have b2 := (nc1 (a2, o2) (by k_mem)).1
    have b3 := (nc1 (a3, o3) (by k_mem)).1
    have b4 := (nc1 (a4, o4) (by k_mem)).1
    have b5 := (nc1 (a5, o5) (by k_mem)).1
    have b6 := (nc1 (a6, o6) (by k_mem)).1
    dsimp only at b1 b2 b3 b4 b5 b6
    k_steps
    clear b1 b2 b3 b4 b5 b6 lE
    (rename a1 < _ ∧ _ => q9); clear q9
    refine ⟨?_⟩
    (rename Fr _ _ _ _ => F9); (rename News _ _ _ _ => N9)
    have N10 := news_tail N9
    have ta9 := tree6 ht7 N10
    have hal := aboveD_length (grow os) .none
    refine PC.use2 (c := ⟨_, _, _, _, _⟩) (above_pc ⟨_, _, _, _, _⟩ (grow os) _ r7 .none .none (by omega) ta9 .none) F9 N10 X0 T0 rfl (by have cD := callerDepth; have cU := callerUnits; dsimp only [Around.deeper]; omega) (by have cD := callerDepth; have cU := callerUnits; dsimp only [Around.deeper]; omega) ?_
    clear N9 N10 F9 ta9
    intro r11 tl11 h11 tk11 F11 N11 M11 k11 ne11 p11
    cases p11 with
    | @mk ad ao kvs _ hm11 lo11 hd11 hf11 =>
    have N12 := fun p hp => (List.mem_cons.mp hp).elim (fun e => (e ▸ M11 _ hm11 : _ ∧ _)) (N11 p)
    have adc : Hidden (@Ne Nat ad 55 ∧ @Ne Nat ad 48) := ⟨⟨Ne.symm (ne11 (55, tabObj #[]) (by k_mem) _ hm11), Ne.symm (ne11 (48, tabObj #[]) (by k_mem) _ hm11)⟩⟩
    clear N11 M11 ne11
    have N13 : News _ _ h11 ((ad, ao) :: _) := N12
    clear N12
    k_steps
    rename_i oC dC hq5 tkq Dla hz1 lz1 Dz hz2 lz2 hz3 hz4 hz5 F14 N14
    have N15 := news_tail N14
    have mDo : (Do, listOf wo.toArray ko) ∈ [(Dla, listOf ([] : List Value).toArray 0), (ad, ao), (a1, o1), (a2, o2), (a3, o3), (a4, o4), (a5, o5), (a6, o6), (Dn, listOf wsn.toArray 0), (Do, listOf wo.toArray ko), (Dl, listOf wl.toArray kl), (s1.heap.objs.size + 1, oC), (55, tabObj #[]), (48, tabObj #[])] := by k_mem
    refine' my_enum rfl ?FF2S0 ?NN2S0 ?mm2S0 ?hh2S0
    case FF2S0 => exact F14
    case NN2S0 => exact N15
    case mm2S0 => exact mDo
    intro e it lI hIe
    k_lt lI
    refine ⟨fun i m ns => ∃ (wd : List Value) (kd : Nat) (tm : Tok), ns = [(Dla, listOf wd.toArray kd), (ad, ao), (a1, o1), (a2, o2), (a3, o3), (a4, o4), (a5, o5), (a6, o6), (Dn, listOf wsn.toArray 0), (Do, listOf wo.toArray ko), (Dl, listOf wl.toArray kl), (s1.heap.objs.size + 1, oC), (55, tabObj #[]), (48, tabObj #[])] ∧
      m "laid" = some (.ref Dla) ∧ m "above" = some (.ref ad) ∧ m "order" = some (.ref Do) ∧ m "many" = some (.int os.length tm) ∧ IntsAre wd (layF [] (os.take i)) ∧ i ≤ os.length, ?_, ?_, ?_, ?_⟩
    · rintro i m ns ⟨wd, kd, tm, rfl, _⟩; k_mem
    · exact ⟨[], 0, _, rfl, rfl, rfl, by ((repeat (first | with_reducible assumption | exact if_pos rfl | (refine look_skip (by decide) ?_)))), rfl, .nil, Nat.zero_le _⟩
    · clear N14 F14 N15 lz2
      rintro i t v m ns x1 y1 x2 y2 h16 tk16 hv ⟨wd, kd, tm, rfl, m1, m2, m3, m4, hwd, hi0⟩ hmap hx1 hx2 F16 N16
      obtain ⟨one, tone, rfl, hone⟩ := IntsAre.at ho5 i v hv
      have hlw := hwd.length
      have nx : Hidden (@Ne Nat x1 Dla ∧ @Ne Nat x2 Dla) := by
        have q1 : @LT.lt Nat instLTNat Dla it := lI.1
        have q2 : @LT.lt Nat instLTNat it e := hIe
        have q3 : @LT.lt Nat instLTNat Do Dla := by omega
        refine ⟨?_, ?_⟩
        · rcases hx1 with h | h
          · exact h ▸ Nat.ne_of_gt (Nat.lt_trans q1 q2)
          · exact h ▸ Nat.ne_of_lt q3
        · rcases hx2 with h | h
          · exact h ▸ Nat.ne_of_gt q1
          · exact h ▸ Nat.ne_of_lt q3
      clear hx1 hx2 lI hIe lA lB
      have hil : i < os.length := by
        false_or_by_contra
        rw [List.getElem?_eq_none (by omega)] at hone; cases hone
      have hR := Right.of hn6 hr5
      obtain ⟨hT, hL1⟩ := loop2_at i [] os one hR.turns hone
      have hll := lay_len (os.take i) []
      rw [List.length_nil, List.length_take] at hll
      generalize hlds : layF [] (os.take i) = lds at hwd hlw hT hL1 hll
      have hl6 : lds.length ≤ 6 := by omega
      k_steps
      refine ⟨?_⟩
      (rename Fr _ _ _ _ => F17); (rename News _ _ _ _ => N17)
      refine PC.use (c := ⟨_, _, _, _, _⟩) (bis_pc ⟨_, _, _, _, _⟩ lds one _ _ _ (by omega) ⟨Dla, wd, rfl, N17.isList (.tail _ (.tail _ (.head _))), hwd⟩) F17 N17 X0 T0 rfl (by have cD := callerDepth; have cU := callerUnits; dsimp only [Around.deeper]; omega) (by have cD := callerDepth; have cU := callerUnits; dsimp only [Around.deeper]; omega) ?_
      rintro r18 tl18 h18 tk18 F18 N18' k18 ⟨t18, e18⟩
      subst e18
      have N18 : News _ _ h18 _ := fun p hp => N18' p (List.mem_append_left _ hp)
      clear N18' N17 F17
      have hpl := bis_le lds one lds.length 0 lds.length (by omega) (by omega)
      have hcs := turn_near hl6 hT
      generalize hpp : bis lds one 0 lds.length = pp at hpl hcs
      have hlay : (PyData.list (os.map PyData.int)).layable0 = true := lay_reach hn6 hr5
      have stp : StopIf := ⟨⟩
      k_steps
      refine ⟨?_⟩
      clear stp
      (rename Fr _ _ _ _ => F19); (rename News _ _ _ _ => N19')
      rename_i D1 ws1 hp1 hI1 hC1 hL1 l1 D2 ws2 hp2 hI2 hC2 hL2 l2 D3 ws3 hp3 hNr l3 hp4
      have N19 := news_drop2 (news_drop2 N19')
      rw [near_eq lds pp hpl] at hNr
      clear N19' hI1 hC1 hL1 l1 hI2 hC2 hL2 l2 N18 F18
      have hD := above_F (grow os) none
      have hK := look_F one (aboveF (grow os) none)
      rw [← hD] at hK
      rcases hcs with ⟨hn, hk⟩ | ⟨a, r, b, hn, ha, hl, hk, hb⟩
      · rw [hn] at hNr
        cases hNr
        have hlk : PySem.Spec.lookup (PyData.int one) ((grow os).aboveD .none) = some .none := by rw [show PyData.none = encO none from rfl, hK, hk]; rfl
        clear hK hD hT
        k_steps
        obtain ⟨nx1, nx2⟩ := nx
        refine ⟨?_⟩
        (rename Fr _ _ _ _ => F21); (rename News _ _ _ _ => N21)
        have g0 : Heap.get? _ Dla = none := (N21 (Dla, listOf wd.toArray kd) (by k_mem)).2.2
        refine' PM.useD (c := ⟨_, _, _, _, _⟩) (ins_pm ⟨_, _, _, _, _⟩ lds one _ _ Dla wd kd hwd (by omega) (N21 (Dla, _) ?memAS2).1 (Cx.At.keeps (c := ⟨_, _, _, _, _⟩) ⟨X0, T0⟩ fun b o e => hideAll_get _ (F21.keep _ _ e) fun q => ?nqS2)) F21 N21 ?updAS2 rfl (by have cD := callerDepth; have cU := callerUnits; dsimp only [Around.deeper]; omega) (by have cD := callerDepth; have cU := callerUnits; dsimp only [Around.deeper]; omega) ?_
        case memAS2 => k_mem
        case updAS2 => k_updF
        case nqS2 => rw [List.mem_singleton.mp q, g0] at e; cases e
        rintro r22 h22 tk22 F22 NN22 kb22 ⟨er22, us22, nn22, hD22, hi22⟩
        subst er22
        have N22 := news_tail (news_tail (NN22 _ hD22))
        rw [← ins_F hl6, ← hL1] at hi22
        clear N21 F21 NN22 kb22 g0
        k_steps
        (rename Fr _ _ _ _ => F23); (rename News _ _ _ _ => N23)
        refine ⟨_, _, _, _, rfl, F23, N23, ?_, us22, nn22, tm, ?_, ?_, ?_, ?_, ?_, hi22, hil⟩
        · rfl
        · rfl
        all_goals ((repeat (first | with_reducible assumption | exact if_pos rfl | (refine look_skip (by decide) ?_))))
      · rw [hn] at hNr
        have hlk : PySem.Spec.lookup (PyData.int one) ((grow os).aboveD .none) = some (.int b) := by rw [show PyData.none = encO none from rfl, hK, hk]; rfl
        have e0 : a = (a :: r).getD (Int.toNat 0) 0 := rfl
        have e1 : (a :: r).length - 1 = (-1 + ((a :: r).length : Int)).toNat := by simp only [List.length_cons]; omega
        rw [e1] at hb hl
        rw [e0] at ha
        have hb2 : b = if os.idxOf ((a :: r).getD (-1 + ((a :: r).length : Int)).toNat 0) < os.idxOf ((a :: r).getD (Int.toNat 0) 0) then (a :: r).getD (Int.toNat 0) 0 else (a :: r).getD (-1 + ((a :: r).length : Int)).toNat 0 := hb
        have hne0 : (a :: r).length ≠ 0 := by simp
        clear hb e0 e1 hK hD hT hn
        generalize (a :: r) = near at hNr hb2 hne0 ha hl
        k_steps
        · exfalso; (rename decide (near = []) = true => hz); exact hne0 (by rw [of_decide_eq_true hz]; rfl)
        · exfalso; (rename b ≠ _ => hz); (rename (_ : Int) < _ => hy); exact hz (hb2.trans (if_pos (by omega)))
        rotate_left
        · exfalso; (rename b ≠ _ => hz); (rename ¬ (_ : Int) < _ => hy); exact hz (hb2.trans (if_neg (by omega)))
        all_goals
          obtain ⟨nx1, nx2⟩ := nx
          refine ⟨?_⟩
          (rename Fr _ _ _ _ => F21); (rename News _ _ _ _ => N21)
          have g0 : Heap.get? _ Dla = none := (N21 (Dla, listOf wd.toArray kd) (by k_mem)).2.2
          refine' PM.useD (c := ⟨_, _, _, _, _⟩) (ins_pm ⟨_, _, _, _, _⟩ lds one _ _ Dla wd kd hwd (by omega) (N21 (Dla, _) ?memAS2).1 (Cx.At.keeps (c := ⟨_, _, _, _, _⟩) ⟨X0, T0⟩ fun b o e => hideAll_get _ (F21.keep _ _ e) fun q => ?nqS2)) F21 N21 ?updAS2 rfl (by have cD := callerDepth; have cU := callerUnits; dsimp only [Around.deeper]; omega) (by have cD := callerDepth; have cU := callerUnits; dsimp only [Around.deeper]; omega) ?_
          case memAS2 => k_mem
          case updAS2 => k_updF
          case nqS2 => rw [List.mem_singleton.mp q, g0] at e; cases e
          rintro r22 h22 tk22 F22 NN22 kb22 ⟨er22, us22, nn22, hD22, hi22⟩
          subst er22
          have N22 := news_tail (news_tail (NN22 _ hD22))
          rw [← ins_F hl6, ← hL1] at hi22
          clear N21 F21 NN22 kb22 g0
          k_steps
          (rename Fr _ _ _ _ => F23); (rename News _ _ _ _ => N23)
          refine ⟨_, _, _, _, rfl, F23, N23, ?_, us22, nn22, tm, ?_, ?_, ?_, ?_, ?_, hi22, hil⟩
          · rfl
          · rfl
          all_goals ((repeat (first | with_reducible assumption | exact if_pos rfl | (refine look_skip (by decide) ?_))))
    · clear N14 F14 N15 lz2 lI hIe lz1 lA
      rintro h16 tk16 m ns F16 N16 ⟨wd, kd, tm, rfl, m1, m2, m3, m4, hwd, hi0⟩
      have hR := Right.of hn6 hr5
      rw [how, List.take_length, hR.laid] at hwd
      have hT1 := hR.told
      rw [hR.laid] at hT1
      have hlr : (rangeI n).length = n := by simp [rangeI]
      have hrk : rangeKs 0 (((os.length : Nat) : Int) - 0).toNat = rangeI n := by
        rw [show (((os.length : Nat) : Int) - 0).toNat = n by omega]
        unfold rangeKs rangeI; congr 1; funext i; omega
      k_steps
      refine ⟨?_⟩
      (rename Fr _ _ _ _ => F17); (rename News _ _ _ _ => N17)
      have t17 := tree6 ht7 (news_tail (news_tail N17))
      refine PC.useI (c := ⟨_, _, _, _, _⟩) (told_pc ⟨_, _, _, _, _⟩ (grow os) _ r7 (by omega) t17) F17 N17 X0 T0 rfl (by have cD := callerDepth; have cU := callerUnits; dsimp only [Around.deeper]; omega) (by have cD := callerDepth; have cU := callerUnits; dsimp only [Around.deeper]; omega) ?_
      clear N17 t17 F17
      intro a18 w18 k18 h18 tk18 F18 N18 s18 i18
      rw [hT1] at i18
      k_steps
      refine ⟨?_⟩
      (rename Fr _ _ _ _ => F19); (rename News _ _ _ _ => N19')
      rename_i hq19 tkq19 tq1 tq2 tq3 rq1 rq2 Dq vq cq hq20 tkq20 iq lq eq19
      have N19 := news_tail (news_tail N19')
      clear N19' rq1 rq2 iq lq eq19 i18
      have t19 := tree6 ht7 (news_tail (news_tail N19))
      have hal2 := grow_ahead_le (grow os)
      refine PC.useI (c := ⟨_, _, _, _, _⟩) (ahead_pc ⟨_, _, _, _, _⟩ (grow os) _ r7 (by omega) t19) F19 N19 X0 T0 rfl (by have cD := callerDepth; have cU := callerUnits; dsimp only [Around.deeper]; omega) (by have cD := callerDepth; have cU := callerUnits; dsimp only [Around.deeper]; omega) ?_
      clear N19 t19 F19
      intro a20 w20 k20 h20 tk20 F20 N20 s20 i20
      k_steps
      refine ⟨?_⟩
      (rename Fr _ _ _ _ => F21); (rename News _ _ _ _ => N21)
      refine PC.useT (c := ⟨_, _, _, _, _⟩) (grown_pc ⟨_, _, _, _, _⟩ (grow os).ahead _ _ (by omega) ⟨a20, w20, rfl, N21.isList (.head _), i20⟩) F21 (news_tail N21) X0 T0 rfl (by have cD := callerDepth; have cU := callerUnits; dsimp only [Around.deeper]; omega) (by have cD := callerDepth; have cU := callerUnits; dsimp only [Around.deeper]; omega) ?_
      clear N21 F21
      intro r22 h22 tk22 F22 N22 s22 t22
      rw [hR.again] at t22
      have u22 := tree6 ht7 (news_tail (news_tail N22))
      k_steps
      refine tree_ne t22 u22 (by omega) (by omega) (by have cD := callerDepth; have cU := callerUnits; dsimp only [Around.deeper]; omega) ?_
      rw [decide_eq_true rfl, Bool.not_true]
      clear t22 u22
      k_steps
      refine ⟨?_⟩
      (rename Fr _ _ _ _ => F23); (rename News _ _ _ _ => N23')
      have N23 := news_thin (news_tail N23')
      have apD : Hidden (∀ p ∈ [(ad, ao), (a1, o1), (a2, o2), (a3, o3), (a4, o4), (a5, o5), (a6, o6), (Do, listOf wo.toArray ko), (s1.heap.objs.size + 1, oC)], @Ne Nat p.1 55 ∧ @Ne Nat p.1 48) := by
        refine ⟨fun p hp => ?_⟩
        have z1 : @LT.lt Nat instLTNat 55 Do := by omega
        have z2 : @LT.lt Nat instLTNat 48 Do := by omega
        have z3 : @LT.lt Nat instLTNat 55 (s1.heap.objs.size + 1) := by omega
        have z4 : @LT.lt Nat instLTNat 48 (s1.heap.objs.size + 1) := by omega
        rcases List.mem_cons.mp hp with rfl | hp
        · exact adc.out
        rcases List.mem_append.mp (show p ∈ [(a1, o1), (a2, o2), (a3, o3), (a4, o4), (a5, o5), (a6, o6)] ++ [(Do, listOf wo.toArray ko), (s1.heap.objs.size + 1, oC)] from hp) with hp | hp
        · exact (nc1 p hp).2
        rcases List.mem_cons.mp hp with rfl | hp
        · exact ⟨Nat.ne_of_gt z1, Nat.ne_of_gt z2⟩
        · rw [List.mem_singleton.mp hp]; exact ⟨Nat.ne_of_gt z3, Nat.ne_of_gt z4⟩
      clear N23' hT1 hlr hrk hal2 hwd hs7 p7 ne7 k7 hm11 k11 mDo lB s18 s20 s22 i20 hi0 adc nc1
      refine' For_invVF F23 ?k1S4 ?k2S4 ?k3S4 ?k4S4 ?k5S4
      case k1S4 => exact rfl
      case k2S4 => exact rfl
      case k4S4 => intro _; rfl
      case k5S4 => passes_own
      k_steps
      refine ⟨?_⟩
      (rename IsRange _ _ _ _ _ _ _ _ => rg); (rename Fr _ _ _ _ => F24); (rename News _ _ _ _ => N24)
      refine' my_iter_range (n := os.length) rfl F24 N24 rg (range_small (n := os.length) (by omega) (by omega) (by omega) (by omega) (by omega)) (by omega) ?hhS4
      intro I it h1 F5 N5 lI
      clear F5 N5 F24 N24 rg
      k_lt lI
      refine ⟨fun i m ns => ∃ td, ns = [(ad, ao), (a1, o1), (a2, o2), (a3, o3), (a4, o4), (a5, o5), (a6, o6), (Do, listOf wo.toArray ko), (s1.heap.objs.size + 1, oC), (55, tabObj #[]), (48, tabObj #[])] ∧
        m "due" = some (.int (factF i : Nat) td) ∧ m "above" = some (.ref ad) ∧ m "order" = some (.ref Do) ∧ m "many" = some (.int os.length tm), ?_, ?_, ?_⟩
      · exact ⟨_, rfl, rfl, by ((repeat (first | with_reducible assumption | exact if_pos rfl | (refine look_skip (by decide) ?_)))), by ((repeat (first | with_reducible assumption | exact if_pos rfl | (refine look_skip (by decide) ?_)))), by ((repeat (first | with_reducible assumption | exact if_pos rfl | (refine look_skip (by decide) ?_))))⟩
      · rintro i tv m ns it2 h25 tk25 hi ⟨td, rfl, u1, u2, u3, u4⟩ hoff F25 N25
        have hfac : factF i ≤ 120 := fact_le i (by omega)
        k_steps
        (rename Fr _ _ _ _ => F26); (rename News _ _ _ _ => N26)
        refine ⟨_, _, _, _, rfl, F26, N26, hoff, _, rfl, (if_pos rfl).trans (congrArg (fun z => some (Value.int z _)) (fact_step i)), ?_, ?_, ?_⟩
        all_goals ((repeat (first | with_reducible assumption | exact if_pos rfl | (refine look_skip (by decide) ?_))))
      · rintro h25 tk25 m ns F25 N25 ⟨td, rfl, u1, u2, u3, u4⟩
        clear lI
        k_steps
        refine ⟨?_⟩
        refine' For_invVF F25 ?j1S4 ?j2S4 ?j3S4 ?j4S4 ?j5S4
        case j1S4 => exact rfl
        case j2S4 => exact rfl
        case j4S4 => intro _; rfl
        case j5S4 => passes_own
        k_steps
        refine ⟨?_⟩
        (rename Fr _ _ _ _ => F26); (rename News _ _ _ _ => N26)
        have t26 := tree6 ht7 (news_tail N26)
        refine PC.useI (c := ⟨_, _, _, _, _⟩) (sizes_pc ⟨_, _, _, _, _⟩ (grow os) _ r7 (by omega) t26) F26 N26 X0 T0 rfl (by have cD := callerDepth; have cU := callerUnits; dsimp only [Around.deeper]; omega) (by have cD := callerDepth; have cU := callerUnits; dsimp only [Around.deeper]; omega) ?_
        clear N26 F26 t26
        intro Ds wz kz h27 tk27 F27 N27' s27 hz
        have N27 : News _ _ h27 [(Ds, listOf wz.toArray kz), (Ds, listOf wz.toArray kz), (Ds, listOf wz.toArray kz), (ad, ao), (a1, o1), (a2, o2), (a3, o3), (a4, o4), (a5, o5), (a6, o6), (Do, listOf wo.toArray ko), (s1.heap.objs.size + 1, oC), (55, tabObj #[]), (48, tabObj #[])] := fun p hp => N27' p (by
          rcases List.mem_cons.mp hp with rfl | hp
          · exact .head _
          rcases List.mem_cons.mp hp with rfl | hp
          · exact .head _
          · exact hp)
        refine' my_iter_listP rfl ?FF3S4 ?NN3S4 ?mm3S4 ?hh3S4
        case FF3S4 => exact F27
        case NN3S4 => exact N27
        case mm3S4 => exact List.mem_cons_self ..
        clear N27'
        intro I it h1 F5 N5 lI
        clear F5 N5
        have dI : Hidden (@Ne Nat Ds I ∧ @Ne Nat I 55 ∧ @Ne Nat I 48 ∧ @Ne Nat Ds 55 ∧ @Ne Nat Ds 48) := by
          have z1 := (N27 (Ds, listOf wz.toArray kz) (by k_mem)).1
          have z2 := (N27 (55, tabObj #[]) (by k_mem)).1
          have z3 := (N27 (48, tabObj #[]) (by k_mem)).1
          refine ⟨Nat.ne_of_lt (lI (Ds, listOf wz.toArray kz) (by k_mem)), Nat.ne_of_gt (lI (55, tabObj #[]) (by k_mem)), Nat.ne_of_gt (lI (48, tabObj #[]) (by k_mem)), fun q => ?_, fun q => ?_⟩
          · rw [show Ds = 55 from q, z2] at z1; cases z1
          · rw [show Ds = 48 from q, z3] at z1; cases z1
        clear lI
        have hzl := hz.length
        refine ⟨fun i m ns => ∃ (d : Nat) (td : Tok) (c1 : Addr) (q1 : Obj) (c2 : Addr) (q2 : Obj) (p55 p48 : Array Value), ns = [(Ds, listOf wz.toArray kz), (c1, q1), (c2, q2), (ad, ao), (a1, o1), (a2, o2), (a3, o3), (a4, o4), (a5, o5), (a6, o6), (Do, listOf wo.toArray ko), (s1.heap.objs.size + 1, oC), (55, tabObj p55), (48, tabObj p48)] ∧
          By55 (ghostOf s1.heap [(59, 55), (52, 48)]) p55 c1 q1 ∧ By48 (ghostOf s1.heap [(59, 55), (52, 48)]) p48 c2 q2 ∧
          m "due" = some (.int (d : Int) td) ∧ m "above" = some (.ref ad) ∧ m "order" = some (.ref Do) ∧ m "many" = some (.int os.length tm) ∧ divsF d ((grow os).sizes.drop i) = divsF (factF n) (grow os).sizes, ?_, ?_, ?_, ?_⟩
        · rintro i m ns ⟨d, td, c1, q1, c2, q2, p55, p48, rfl, _⟩; exact .head _
        · exact ⟨factF os.length, td, Ds, _, Ds, _, _, _, rfl, By55.nil, By48.nil, by ((repeat (first | with_reducible assumption | exact if_pos rfl | (refine look_skip (by decide) ?_)))), by ((repeat (first | with_reducible assumption | exact if_pos rfl | (refine look_skip (by decide) ?_)))), by ((repeat (first | with_reducible assumption | exact if_pos rfl | (refine look_skip (by decide) ?_)))), by ((repeat (first | with_reducible assumption | exact if_pos rfl | (refine look_skip (by decide) ?_)))), by rw [hos]; rfl⟩
        · clear N27 F27
          rintro i v m ns it2 h28 tk28 hnc hv ⟨d, td, c1, q1, c2, q2, p55, p48, rfl, K55, K48, v1, v2, v3, v4, hdv⟩ hoff F28 N28
          obtain ⟨z, tz, rfl, hz1⟩ := IntsAre.at hz i v hv
          have hil : i < (grow os).sizes.length := by
            false_or_by_contra
            rw [List.getElem?_eq_none (by omega)] at hz1; cases hz1
          obtain ⟨fd, hfd⟩ := Option.isSome_iff_exists.mp hR.divs
          have hdr : (grow os).sizes.drop i = z :: (grow os).sizes.drop (i + 1) := by
            rw [List.drop_eq_getElem_cons hil]
            congr 1
            exact Option.some.inj ((List.getElem?_eq_getElem hil).symm.trans hz1)
          rw [hdr, hfd] at hdv
          obtain ⟨hd720, b, rfl, hb0, hb6, hmod, hnext⟩ := divs_step hdv
          clear hdv hz1 hdr
          k_steps
          refine ⟨?_⟩
          (rename Fr _ _ _ _ => F29); (rename News _ _ _ _ => N29); (rename CodeHd _ (59, 55).1 _ => C1); (rename CodeHd _ (52, 48).1 _ => C2)
          obtain ⟨dI1, dI2, dI3, dI4, dI5⟩ := dI.out
          refine idm_use (c := ⟨_, _, _, _, _⟩) (R := [(ad, ao), (a1, o1), (a2, o2), (a3, o3), (a4, o4), (a5, o5), (a6, o6), (Do, listOf wo.toArray ko), (s1.heap.objs.size + 1, oC)]) hd720 hb0 hb6 F29 N29 K55 K48 hnc dI1 (fun p hp => ?_) X0 T0 C1 C2 rfl (by have cD := callerDepth; have cU := callerUnits; dsimp only [Around.deeper]; omega) (by have cD := callerDepth; have cU := callerUnits; dsimp only [Around.deeper]; omega) ?_
          · rcases List.mem_cons.mp hp with rfl | hp
            · exact ⟨dI2, dI3⟩
            rcases List.mem_cons.mp hp with rfl | hp
            · exact ⟨dI4, dI5⟩
            · exact apD.out p hp
          intro l o u1 u2 e1 r1 e2 r2 p55' p48' h30 tk30 F30 N30' hT30 ho30 hd30 i1 i2 K1 K2
          have N30 : News _ _ h30 [(l, o), (I, it2), (Ds, listOf wz.toArray kz), (e1, r1), (e2, r2), (ad, ao), (a1, o1), (a2, o2), (a3, o3), (a4, o4), (a5, o5), (a6, o6), (Do, listOf wo.toArray ko), (s1.heap.objs.size + 1, oC), (55, tabObj p55'), (48, tabObj p48')] := N30'
          clear N30' N29 F29 dI1 dI2 dI3 dI4 dI5
          rw [hmod] at hT30 hd30
          obtain ⟨nn30, hd30⟩ := hd30
          k_steps
          (rename Fr _ _ _ _ => F31); (rename News _ _ _ _ => N31)
          refine ⟨_, _, _, _, rfl, F31, news_tail N31, apart_swap (R := [(ad, ao), (a1, o1), (a2, o2), (a3, o3), (a4, o4), (a5, o5), (a6, o6), (Do, listOf wo.toArray ko), (s1.heap.objs.size + 1, oC)]) hoff i1 i2, d / b, u1, e1, r1, e2, r2, p55', p48', rfl, K1, K2, ?_, ?_, ?_, ?_, hnext.trans hfd.symm⟩
          · refine (if_neg ?_).trans (if_pos rfl)
            decide
          · ((repeat (first | with_reducible assumption | exact if_pos rfl | (refine look_skip (by decide) ?_))))
          · ((repeat (first | with_reducible assumption | exact if_pos rfl | (refine look_skip (by decide) ?_))))
          · ((repeat (first | with_reducible assumption | exact if_pos rfl | (refine look_skip (by decide) ?_))))
        · clear N27 F27 dI
          rintro h28 tk28 m ns F28 N28' ⟨d, td, c1, q1, c2, q2, p55, p48, rfl, K55, K48, v1, v2, v3, v4, hdv⟩
          rw [hzl, List.drop_length] at hdv
          have hfin : divsF (factF n) (grow os).sizes = some d := hdv.symm
          have N28 : News _ _ h28 [(ad, ao), (a1, o1), (a2, o2), (a3, o3), (a4, o4), (a5, o5), (a6, o6), (Do, listOf wo.toArray ko), (s1.heap.objs.size + 1, oC), (55, tabObj p55), (48, tabObj p48)] := news_tail (news_tail (news_tail N28'))
          clear N28' hdv K55 K48
          have stp : StopIf := ⟨⟩
          k_steps
          refine ⟨?_⟩
          clear stp
          refine wpAny_mono (Q := fun f s' => Hidden (f = .next ∧ ∃ h' tk', s' = { s1 with heap := h', toks := tk' } ∧ Fr (ghostOf s1.heap [(59, 55), (52, 48)]) s1.heap.objs.size h' m ∧ News (ghostOf s1.heap [(59, 55), (52, 48)]) s1.heap.objs.size h' [(ad, ao), (a1, o1), (a2, o2), (a3, o3), (a4, o4), (a5, o5), (a6, o6), (Do, listOf wo.toArray ko), (s1.heap.objs.size + 1, oC), (55, tabObj p55), (48, tabObj p48)])) ?firstS6 ?secondS6 (fun _ _ e => e)
          case secondS6 =>
            rintro f s' ⟨⟨rfl, h30, tk30, rfl, F30, N30⟩⟩
            clear F28 N28
            k_steps
            refine ⟨?_⟩
            (rename Fr _ _ _ _ => F31)
            refine' For_invVF F31 ?k1S8 ?k2S8 ?k3S8 ?k4S8 ?k5S8
            case k1S8 => exact rfl
            case k2S8 => exact rfl
            case k4S8 => intro _; rfl
            case k5S8 => passes_own
            k_steps
            refine ⟨?_⟩
            (rename Fr _ _ _ _ => F32); (rename News _ _ _ _ => N32)
            obtain ⟨stN, hstN, hsum⟩ := hR.steps
            refine' my_iter_list rfl ?FFS8 ?NNS8 ?mmS8 ?hhS8
            case FFS8 => exact F32
            case NNS8 => exact N32
            case mmS8 => k_mem
            intro I it h1 F5 N5 lI
            clear F5 N5 lI
            refine ⟨fun i m ns => ∃ (st : Nat) (ts : Tok), ns = [(ad, ao), (a1, o1), (a2, o2), (a3, o3), (a4, o4), (a5, o5), (a6, o6), (Do, listOf wo.toArray ko), (s1.heap.objs.size + 1, oC), (55, tabObj p55), (48, tabObj p48)] ∧
              m "steps" = some (.int (st : Int) ts) ∧ m "above" = some (.ref ad) ∧ m "many" = some (.int os.length tm) ∧ stepsF (aboveF (grow os) none) st (os.drop i) = some stN, ?_, ?_, ?_, ?_⟩
            · rintro i m ns ⟨st, ts, rfl, _⟩; k_mem
            · exact ⟨0, _, rfl, rfl, by ((repeat (first | with_reducible assumption | exact if_pos rfl | (refine look_skip (by decide) ?_)))), by ((repeat (first | with_reducible assumption | exact if_pos rfl | (refine look_skip (by decide) ?_)))), hstN⟩
            · clear F32 N32
              rintro i v m ns it2 h33 tk33 hv ⟨st, ts, rfl, w1, w2, w3, hst⟩ hoff F33 N33
              obtain ⟨one, tone, rfl, hone⟩ := IntsAre.at ho5 i v hv
              have hil : i < os.length := by
                false_or_by_contra
                rw [List.getElem?_eq_none (by omega)] at hone; cases hone
              have hdr : os.drop i = one :: os.drop (i + 1) := by
                rw [List.drop_eq_getElem_cons hil]
                congr 1
                exact Option.some.inj ((List.getElem?_eq_getElem hil).symm.trans hone)
              rw [hdr] at hst
              obtain ⟨hp, st', hk, hup, hnx⟩ := steps_step hst
              have hlk : PySem.Spec.lookup (PyData.int one) ((grow os).aboveD .none) = some (encO hp) := by rw [show PyData.none = encO none from rfl, above_F, look_F, hk]; rfl
              clear hst hdr hk
              k_steps
              refine ⟨?_⟩
              (rename Fr _ _ _ _ => F34); (rename News _ _ _ _ => N34); (rename PyProof.V.Flat _ _ => hfl)
              refine my_whileP (by passes_own) (fun k s' => ∃ (hp' : Option Int) (v' : Value) (st1 : Nat) (t1 : Tok) (h' : Heap) (tk' : Nat) (m' : Str → Option Value), s' = { s1 with heap := h', toks := tk' } ∧ Fr (ghostOf s1.heap [(59, 55), (52, 48)]) s1.heap.objs.size h' m' ∧
                News (ghostOf s1.heap [(59, 55), (52, 48)]) s1.heap.objs.size h' [(I, it2), (ad, ao), (a1, o1), (a2, o2), (a3, o3), (a4, o4), (a5, o5), (a6, o6), (Do, listOf wo.toArray ko), (s1.heap.objs.size + 1, oC), (55, tabObj p55), (48, tabObj p48)] ∧ IsO v' hp' ∧ m' "here" = some v' ∧ m' "steps" = some (.int (st1 : Int) t1) ∧ m' "above" = some (.ref ad) ∧ m' "many" = some (.int os.length tm) ∧ upF (aboveF (grow os) none) k hp' st1 = some st') ?turnS9 8 ?startS9
              case startS9 =>
                refine ⟨hp, _, st, ts, _, _, _, rfl, F34, N34, isO_of s1.heap hfl, if_pos rfl, ?_, ?_, ?_, hup⟩
                all_goals ((repeat (first | with_reducible assumption | exact if_pos rfl | (refine look_skip (by decide) ?_))))
              case turnS9 =>
                clear F34 N34 hfl hup hlk
                rintro k s' ⟨hp', v', st1, t1, h', tk', m', rfl, F35, N35, ho, x1, x2, x3, x4, hup⟩
                cases hp' with
                | none =>
                  have e : v' = .none := ho
                  subst e
                  have e2 := up_none hup
                  subst e2
                  k_steps
                  refine ⟨_, _, _, _, rfl, F35, N35, hoff, st1, t1, rfl, x2, x3, x4, hnx⟩
                | some b =>
                  obtain ⟨tb, rfl⟩ := ho
                  obtain ⟨hlt, hp2, k', hk2, hkk, hup2⟩ := up_some hup
                  have hlk2 : PySem.Spec.lookup (PyData.int b) ((grow os).aboveD .none) = some (encO hp2) := by rw [show PyData.none = encO none from rfl, above_F, look_F, hk2]; rfl
                  clear hup hk2
                  k_steps
                  (rename Fr _ _ _ _ => F36); (rename News _ _ _ _ => N36); (rename PyProof.V.Flat _ _ => hfl2)
                  refine ⟨k', hkk, hp2, _, st1 + 1, _, _, _, _, rfl, F36, news_tail N36, isO_of s1.heap hfl2, if_pos rfl, (if_neg (by decide)).trans ((if_pos rfl).trans (congrArg (fun z => some (Value.int z _)) (cast_step st1))), ?_, ?_, hup2⟩
                  · ((repeat (first | with_reducible assumption | exact if_pos rfl | (refine look_skip (by decide) ?_))))
                  · ((repeat (first | with_reducible assumption | exact if_pos rfl | (refine look_skip (by decide) ?_))))
            · clear F32 N32
              rintro h33 tk33 m ns F33 N33 ⟨st, ts, rfl, w1, w2, w3, hst⟩
              rw [show os.drop wo.length = [] from List.drop_of_length_le (by omega)] at hst
              have hs2 : st = stN := Option.some.inj hst
              subst hs2
              clear hst
              k_steps
              refine ⟨?_⟩
              (rename Fr _ _ _ _ => F34); (rename News _ _ _ _ => N34)
              have t34 := tree6 ht7 (news_tail N34)
              refine PC.useI (c := ⟨_, _, _, _, _⟩) (sizes_pc ⟨_, _, _, _, _⟩ (grow os) _ r7 (by omega) t34) F34 N34 X0 T0 rfl (by have cD := callerDepth; have cU := callerUnits; dsimp only [Around.deeper]; omega) (by have cD := callerDepth; have cU := callerUnits; dsimp only [Around.deeper]; omega) ?_
              clear N34 F34 t34
              intro Dy wy ky h35 tk35 F35 N35 s35 hy
              have hfinal : ((st : Int) == (grow os).sizes.sum - (os.length : Int)) = true := by
                rw [beq_iff_eq, hsum, sum_F, hos]
              k_steps
          case firstS6 =>
            k_steps
            · refine ⟨?_⟩
              (rename (os.length : Int) ≤ 5 => h5)
              have hn5 : n ≤ 5 := by omega
              have hcnt := hR.count hn5
              rw [hfin] at hcnt
              have hcd := Option.some.inj hcnt
              clear hcnt
              refine comp_filterG (m := m) (L := s1.heap.objs.size) (h₀ := ghostOf s1.heap [(59, 55), (52, 48)]) (news := [(ad, ao), (a1, o1), (a2, o2), (a3, o3), (a4, o4), (a5, o5), (a6, o6), (Do, listOf wo.toArray ko), (s1.heap.objs.size + 1, oC), (55, tabObj p55), (48, tabObj p48)]) (cl := [(Str.ofString "tree", s1.heap.objs.size + 1)]) (fun a vs h => ∃ H0 k, h.get? a = some (listOf vs.toArray k) ∧ AllAre (Elem H0 a h) vs (ordersK 6 (rangeI n))) (picksH fun o => decide (grow o = grow os))
                (by with_unfolding_all rfl) (by decide) rfl (by decide) rfl (by decide) rfl (fun _ => rfl) ?iterS7 ?testS7 ?finS7
              case iterS7 =>
                intro Q' hQ'
                have stc : StopCall := ⟨⟩
                k_steps
                refine ⟨?_⟩
                clear stc
                (rename IsRange _ _ _ _ _ _ _ _ => rg); (rename Fr _ _ _ _ => F29); (rename News _ _ _ _ => N29)
                refine kll_range (n := n) rfl F29 N29 rg (range_small (n := n) (by omega) (by omega) (by omega) (by omega) (by omega)) (range_size (by omega)) (Nat.le_trans hn6 (by decide)) ?_
                intro Dr wr cr h30 tk30 F30 N30 lr hr
                rw [show rangeKs 0 n = rangeI n by unfold rangeKs rangeI; congr 1; funext i; omega] at hr
                k_steps
                refine ⟨?_⟩
                (rename Fr _ _ _ _ => F31); (rename News _ _ _ _ => N31)
                refine orders_pcK ⟨_, _, _, _, _⟩ 6 (rangeI n) _ _ (by simp [rangeI]; omega) (Nat.le_refl _) ⟨Dr, wr, rfl, N31.isList (.head _), hr⟩ _ _ _ rfl (by have cD := callerDepth; have cU := callerUnits; dsimp only [Around.deeper]; omega) (by have cD := callerDepth; have cU := callerUnits; dsimp only [Around.deeper]; omega) ⟨X0.keeps F31.keep, T0.keeps F31.keep⟩ ?_
                rintro r h32 tk32 st ⟨da, us, nn, er, hd0, hdg, hall⟩
                subst er
                have hlen := hall.length
                have hle := ordersK_le 6 (rangeI n) (by simp [rangeI]; omega)
                have hf6 : factB 6 ≤ 100000 := by decide
                exact hQ' da us h32 tk32 (F31.keeps st) ((news_tail N31).grown st) ⟨_, hdg, rfl, _, rfl⟩ (by omega) ⟨_, nn, hdg, hall⟩
              case testS7 =>
                rintro a vs h₁ C oK v s₃ m₃ E' ⟨H0, k, hg, hall⟩ hv hoK hm3 F3 N3 st3
                obtain ⟨ms, hms, hE⟩ := hall.mem hv
                rw [picksH_eq hE]
                obtain ⟨au, us, ku, rfl, hau, hau0, hug, hui⟩ := hE
                k_steps
                refine ⟨?_⟩
                have hml := ordersK_mem 6 _ _ hms
                refine PC.useT (c := ⟨_, _, _, _, _⟩) (grown_pc ⟨_, _, _, _, _⟩ ms _ _ (by omega) ⟨au, us, rfl, stays_list st3 ⟨_, hug, rfl, _, rfl⟩, hui⟩) F3 N3 X0 T0 rfl (by have cD := callerDepth; have cU := callerUnits; dsimp only [Around.deeper]; omega) (by have cD := callerDepth; have cU := callerUnits; dsimp only [Around.deeper]; omega) ?_
                intro r4 h4 tk4 F4 N4 s4 t4
                have u4 := tree6 ht7 (news_tail (news_tail N4))
                have hms2 := grow_size 6 ms hml
                k_steps
                refine tree_eq t4 u4 (by omega) (by omega) (by have cD := callerDepth; have cU := callerUnits; dsimp only [Around.deeper]; omega) ?_
                k_steps
                exact ⟨_, _, rfl, s4⟩
              case finS7 =>
                rintro a vs h₁ D h' tk k ⟨H0, kk, hg, hall⟩ F4 N4 nD
                have hfl : (vs.filter (picksH (fun o => decide (grow o = grow os)) h₁)).length = d := by
                  rw [hcd]; exact picksH_count hall
                have hdl : d ≤ 100000 := by
                  have hle := ordersK_le 6 (rangeI n) (by simp [rangeI]; omega)
                  have hf6 : factB 6 ≤ 100000 := by decide
                  have := List.length_filter_le (fun o => decide (grow o = grow os)) (ordersK 6 (rangeI n))
                  omega
                generalize vs.filter (picksH (fun o => decide (grow o = grow os)) h₁) = fl at hfl N4
                clear hcd hall hg
                have stc : StopCall := ⟨⟩
                k_steps
                refine ⟨?_⟩
                clear stc
                refine len_plain (N4.isList (.head _)) hfl hdl ?_
                have N5 := news_tail N4
                clear N4 N28 F28
                k_steps
                · exfalso; (rename (d : Int) ≠ d => hz); exact hz rfl
                · exact ⟨⟨rfl, _, _, rfl, F4, N5⟩⟩
            · (rename Fr _ _ _ _ => F31); (rename News _ _ _ _ => N31)
              exact ⟨⟨rfl, _, _, rfl, F31, N31⟩⟩)
end
end Mine

theorem PySem.Challenge.cw_gm0006_01_holds : PySem.Challenge.rw_gm0006_01.Holds :=
  Mine.law_ok
