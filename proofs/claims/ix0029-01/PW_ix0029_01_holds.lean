import PyProof.Rows.All
import Wide.All
import OpenK.AllK
import Wide.FinOn
import Lean
import PySem.Challenge.RW_ix0029_01
set_option Elab.async false
section
open PySem PySem.W PyProof.Rows
namespace Mine
set_option maxRecDepth 100000 in
set_option maxHeartbeats 8000000 in
open_top hd for PySem.Challenge.rw_ix0029_01
end Mine
end
section
open PySem PySem.W PyProof.Rows PySem.Calls
namespace Mine
theorem max0 (x : Int) : 0 ≤ (if 0 < x then x else 0) := by split <;> omega
set_option maxRecDepth 100000 in
set_option maxHeartbeats 0 in
theorem size_cut {w : World} {e₁ : Env} {A₀ : Around} {base h₀ : Heap} {L a : Addr} {m : Str → Option Value} {cn : Str} {cs : Scope} {ccd : Value} {news : List (Addr × Obj)} {s : Shared}
    {loose : List Str} {mean : ExcName → Option Value} {mg mb : Str → Option Value} {Q E : Value → Shared → Prop}
    (hck : cs.kind = .function) (B : Below A₀ base [e₁] h₀) (F : Fr h₀ L s.heap m) (X₀ : (hd.heap_39 w.params).In h₀) (N : News h₀ L s.heap news) (T : Top hd.view_39 loose mean mg mb h₀)
    {d wi g k l : Int} {td tw tg tk tl : Tok}
    (h : ∀ v t h' tk', 0 ≤ v → Fr h₀ L h' m → News h₀ L h' news → Q (.int v t) { s with heap := h', toks := tk' }) :
    wpAny (model PySem.Challenge.rw_ix0029_01.row.prog w) ((callerA.deeper e₁).deeper (envOf cn cs L a ccd)) (call (.ref 128) [.int d td, .int wi tw, .int g tg, .int k tk, .int l tl]) Q E s := by
  w_top off
  (revert X₀; k_fill; intro X₀)
  refine wpAny_call ?_
  refine' code_def (env := envOf cn cs L a ccd) (outer := [e₁]) B F X₀ N T ?kA rfl hck ?k6 ?k7 ?k8 ?k9 ?kB ?_ ?c2 ?c3 ?c4 ?c5
  (case kA => exact rfl)
  (case k6 => k_is)
  (case k7 => k_is)
  (case k8 => k_room)
  (case k9 => exact BindsTo.of_eq rfl)
  (case kB => exact locs rfl)
  (case c2 => exact rfl)
  (case c3 => exact rfl)
  (case c4 => exact rfl)
  (case c5 => decide)
  intro g' L' h' FG' F' N' B' X' T'
  (try dsimp only)
  (try k_lift B')
  (try k_fold)
  k_steps
  exact h _ _ _ _ (max0 _) (by assumption) (cb_drop (by assumption) (fun p hp => .tail _ hp))
end Mine
end
section
open PySem PySem.W PyProof.Rows PySem.Calls
namespace Mine
section
variable {prog : Program} {w : World} {A : Around} {E : Value → Shared → Prop} {s : Shared} {env : Env} {g : Heap} {x : Str} {body : List Stmt} {Q : Flow → Shared → Prop} {σ : Type}

/-- the end of a turn: the state's own part of the ledger, the rest kept, the frame's names, the word -/
def MyEnd (Led : σ → List (Addr × Obj)) (ps : σ → List (Str × Value)) (P : σ → Prop) (g : Heap) (L : Addr) (rest : List (Addr × Obj)) (s₁ s₂ : Shared) : Prop :=
  ∃ c h' tk m' news', s₂ = { s₁ with heap := h', toks := tk } ∧ Fr g L h' m' ∧ News g L h' news' ∧ (∀ p ∈ Led c, p ∈ news') ∧ (∀ p ∈ rest, p ∈ news') ∧
    (∀ q ∈ rest, ∀ p ∈ Led c, q.1 ≠ p.1) ∧ (∀ p ∈ ps c, m' p.1 = some p.2) ∧ P c
def MyPost (Led : σ → List (Addr × Obj)) (ps : σ → List (Str × Value)) (P : σ → Prop) (g : Heap) (L : Addr) (rest : List (Addr × Obj)) (s₁ : Shared) (Q : Flow → Shared → Prop) (f : Flow) (s₂ : Shared) : Prop :=
  match f with
  | .ret v => Q (.ret v) s₂
  | .brk => Q .next s₂
  | _ => MyEnd Led ps P g L rest s₁ s₂

theorem MyEnd.intro {Led : σ → List (Addr × Obj)} {ps : σ → List (Str × Value)} {P : σ → Prop} {L : Addr} {rest news' : List (Addr × Obj)} {s₁ : Shared} {h' : Heap} {tk : Nat} {m' : Str → Option Value} (c : σ)
    (F : Fr g L h' m') (N : News g L h' news') (hn : ∀ p ∈ Led c, p ∈ news') (hr : ∀ p ∈ rest, p ∈ news') (ho : ∀ q ∈ rest, ∀ p ∈ Led c, q.1 ≠ p.1) (hf : ∀ p ∈ ps c, m' p.1 = some p.2) (hp : P c) :
    MyEnd Led ps P g L rest s₁ { s₁ with heap := h', toks := tk } := ⟨c, h', tk, m', news', rfl, F, N, hn, hr, ho, hf, hp⟩

theorem kst_all_eq {m₁ : Str → Option Value} {ps : List (Str × Value)} (h : ∀ p ∈ ps, m₁ p.1 = some p.2) : kstB m₁ ps = m₁ := by
  funext z
  exact kstB_eq h fun _ => rfl

theorem my_iter {l : Addr} {vs : List Value} {ns : List Int} {nn : Nat} {m₀ : Str → Option Value} {news : List (Addr × Obj)} (Led : σ → List (Addr × Obj)) (ps : σ → List (Str × Value)) (P : σ → Prop) (c₀ : σ)
    (hh : A.handled = none) (hl : (l, W.listOf vs.toArray nn) ∈ news) (hi : IntsAre vs ns) (F : Fr g env.locals s.heap m₀) (N : News g env.locals s.heap (Led c₀ ++ news))
    (ho : ∀ q ∈ news, ∀ p ∈ Led c₀, q.1 ≠ p.1) (hk : ∀ p ∈ ps c₀, m₀ p.1 = some p.2) (hp : P c₀)
    (turn : ∀ (c : σ) (n : Int) (t : Tok) (u : Str → Option Value) (h : Heap) (tk : Nat) (rest : List (Addr × Obj)), P c → (∀ q ∈ rest, ∀ p ∈ Led c, q.1 ≠ p.1) →
      Fr g env.locals h (fun y => if y = x then some (.int n t) else kstB u (ps c) y) → News g env.locals h (Led c ++ rest) →
      wpAny (model prog w) A (execs body env) (MyPost Led ps P g env.locals rest { s with heap := h, toks := tk } Q) E { s with heap := h, toks := tk })
    (done : ∀ (c : σ) (u : Str → Option Value) (h : Heap) (tk : Nat), P c → Fr g env.locals h u → News g env.locals h (Led c ++ news) → Q .next { s with heap := h, toks := tk }) :
    wpAny (model prog w) A (pyIter (.ref l)) (fun it s₂ => LoopAtV prog w A g env x body Q E it s₂) E s := by
  refine kdl_iter (news := Led c₀ ++ news) (fun _ m nx => ∃ c : σ, nx = Led c ++ news ∧ (∀ q ∈ news, ∀ p ∈ Led c, q.1 ≠ p.1) ∧ (∀ p ∈ ps c, m p.1 = some p.2) ∧ P c) hh (List.mem_append.mpr (.inr hl)) F N ⟨c₀, rfl, ho, hk, hp⟩ ?_ ?_
  · rintro i v m₁ nx h tk own hv hoff _ ⟨c, rfl, ho', hk', hp'⟩ F₁ N₁
    obtain ⟨n, t, rfl, _⟩ := hi.at i v hv
    have hoffs : ∀ q ∈ own, ∀ p ∈ Led c, q.1 ≠ p.1 := fun q hq p hp => hoff q hq _ (List.mem_map.mpr ⟨p, List.mem_append.mpr (.inl hp), rfl⟩)
    have F₂ : Fr g env.locals h (fun y => if y = x then some (.int n t) else kstB m₁ (ps c) y) := by rw [kst_all_eq hk']; exact F₁
    have N₂ : News g env.locals h (Led c ++ (news ++ own)) := by rw [← List.append_assoc]; exact N₁
    refine wpAny_mono (turn c n t m₁ h tk (news ++ own) hp' (fun q hq p hp => (List.mem_append.mp hq).elim (fun hq => ho' q hq p hp) fun hq => hoffs q hq p hp) F₂ N₂) (fun f s₂ p => ?_) fun _ _ e => e
    have fin : MyEnd Led ps P g env.locals (news ++ own) { s with heap := h, toks := tk } s₂ →
        InvEndG g env.locals (fun m' nx => (l, W.listOf vs.toArray nn) ∈ nx ∧ ∃ c : σ, nx = Led c ++ news ∧ (∀ q ∈ news, ∀ p ∈ Led c, q.1 ≠ p.1) ∧ (∀ p ∈ ps c, m' p.1 = some p.2) ∧ P c) own { s with heap := h, toks := tk } s₂ := by
      rintro ⟨c', h', tk', m', news', e, F', N', hn, hr, hd, hf, hp⟩
      refine ⟨h', tk', m', news', Led c' ++ news, e, F', N', fun p hp => (List.mem_append.mp hp).elim (hn p) fun hp => hr p (List.mem_append.mpr (.inl hp)), fun p hp => hr p (List.mem_append.mpr (.inr hp)), ?_, List.mem_append.mpr (.inr hl), c', rfl, fun q hq => hd q (List.mem_append.mpr (.inl hq)), hf, hp⟩
      intro q hq b hb
      obtain ⟨p, hp, rfl⟩ := List.mem_map.mp hb
      rcases List.mem_append.mp hp with hp | hp
      · exact hd q (List.mem_append.mpr (.inr hq)) p hp
      · exact hoff q hq _ (List.mem_map.mpr ⟨p, List.mem_append.mpr (.inr hp), rfl⟩)
    cases f with
    | ret v => exact p
    | brk => exact p
    | next => exact fin p
    | cont => exact fin p
  · rintro m₁ nx h tk ⟨c, rfl, _, _, hp'⟩ F₁ N₁
    exact done c m₁ h tk hp' F₁ N₁
end
end Mine
end
section
open PySem PySem.W PyProof.Rows PySem.Calls
namespace Mine
/-- the manager's dict -/
abbrev mgr (P : Params) (k1 k2 k3 : Tok) (M : Int) (t1 : Tok) (c : Int) (t2 : Tok) (p : Int) (t3 : Tok) : Obj :=
  dictOf [⟨PyData.keyHash P (Str.ofString "max_window_size"), .str (Str.ofString "max_window_size") k1, .int M t1⟩,
    ⟨PyData.keyHash P (Str.ofString "current_window_size"), .str (Str.ofString "current_window_size") k2, .int c t2⟩,
    ⟨PyData.keyHash P (Str.ofString "_bytes_processed"), .str (Str.ofString "_bytes_processed") k3, .int p t3⟩] 3
structure PS where
  c : Int
  p : Int
  cm : Int
  dn : Int
  bk : Int
  t2 : Tok
  t3 : Tok
  t4 : Tok
  t5 : Tok
  t6 : Tok
def PLed (P : Params) (x d : Addr) (k1 k2 k3 : Tok) (f : Int) (t1 : Tok) (c : PS) : List (Addr × Obj) := [(x, instObj 110 d), (d, mgr P k1 k2 k3 f t1 c.c c.t2 c.p c.t3)]
def Pps (x l : Addr) (f : Int) (tf : Tok) (le : Int) (tl : Tok) (c : PS) : List (Str × Value) :=
  [(Str.ofString "first", .int f tf), (Str.ofString "numbers", .ref l), (Str.ofString "manager", .ref x), (Str.ofString "least", .int le tl),
    (Str.ofString "came", .int c.cm c.t4), (Str.ofString "done", .int c.dn c.t5), (Str.ofString "back", .int c.bk c.t6)]
def PP (f : Int) (c : PS) : Prop := c.c = f + c.bk - c.cm ∧ c.p = c.dn - c.bk ∧ 0 ≤ c.c ∧ c.dn ≤ c.cm ∧ c.bk ≤ c.dn
section
variable {prog : Program} {w : World} {A : Around} {E : Value → Shared → Prop} {s : Shared} {env : Env} {g : Heap} {body : List Stmt} {Q : Flow → Shared → Prop}
  {x d l : Addr} {k1 k2 k3 t1 tf tl : Tok} {f le : Int} {W : Params}
theorem plain_end {L : Addr} {rest news' : List (Addr × Obj)} {s₁ : Shared} {h' : Heap} {tk : Nat} {m' : Str → Option Value} {c p cm dn bk : Int} {t2 t3 t4 t5 t6 : Tok}
    (F : Fr g L h' m') (N : News g L h' news') (hx : (x, instObj 110 d) ∈ news') (hd : (d, mgr W k1 k2 k3 f t1 c t2 p t3) ∈ news') (hr : ∀ q ∈ rest, q ∈ news')
    (hox : ∀ q ∈ rest, q.1 ≠ x) (hod : ∀ q ∈ rest, q.1 ≠ d) (f1 : m' (Str.ofString "first") = some (.int f tf)) (f2 : m' (Str.ofString "numbers") = some (.ref l)) (f3 : m' (Str.ofString "manager") = some (.ref x))
    (f4 : m' (Str.ofString "least") = some (.int le tl)) (f5 : m' (Str.ofString "came") = some (.int cm t4)) (f6 : m' (Str.ofString "done") = some (.int dn t5)) (f7 : m' (Str.ofString "back") = some (.int bk t6))
    (a1 : c = f + bk - cm) (a2 : p = dn - bk) (a3 : 0 ≤ c) (a4 : dn ≤ cm) (a5 : bk ≤ dn) :
    MyEnd (PLed W x d k1 k2 k3 f t1) (Pps x l f tf le tl) (PP f) g L rest s₁ { s₁ with heap := h', toks := tk } := by
  refine MyEnd.intro ⟨c, p, cm, dn, bk, t2, t3, t4, t5, t6⟩ F N ?_ hr ?_ ?_ ⟨a1, a2, a3, a4, a5⟩
  · intro q hq
    simp only [PLed, List.mem_cons, List.not_mem_nil, or_false] at hq
    rcases hq with rfl | rfl
    · exact hx
    · exact hd
  · intro q hq b hb
    simp only [PLed, List.mem_cons, List.not_mem_nil, or_false] at hb
    rcases hb with rfl | rfl
    · exact hox q hq
    · exact hod q hq
  · intro q hq
    simp only [Pps, List.mem_cons, List.not_mem_nil, or_false] at hq
    rcases hq with rfl | rfl | rfl | rfl | rfl | rfl | rfl
    · exact f1
    · exact f2
    · exact f3
    · exact f4
    · exact f5
    · exact f6
    · exact f7
theorem plain_iter {vs : List Value} {ns : List Int} {nn : Nat} {m₀ : Str → Option Value} {news : List (Addr × Obj)} {t2 t3 t4 t5 t6 : Tok}
    (hh : A.handled = none) (hl : (l, PySem.W.listOf vs.toArray nn) ∈ news) (hi : IntsAre vs ns) (F : Fr g env.locals s.heap m₀)
    (N : News g env.locals s.heap ((x, instObj 110 d) :: (d, mgr W k1 k2 k3 f t1 f t2 0 t3) :: news))
    (hox : ∀ q ∈ news, q.1 ≠ x) (hod : ∀ q ∈ news, q.1 ≠ d) (h0 : 0 ≤ f) (f1 : m₀ (Str.ofString "first") = some (.int f tf)) (f2 : m₀ (Str.ofString "numbers") = some (.ref l)) (f3 : m₀ (Str.ofString "manager") = some (.ref x))
    (f4 : m₀ (Str.ofString "least") = some (.int le tl)) (f5 : m₀ (Str.ofString "came") = some (.int 0 t4)) (f6 : m₀ (Str.ofString "done") = some (.int 0 t5)) (f7 : m₀ (Str.ofString "back") = some (.int 0 t6))
    (turn : ∀ (c p cm dn bk : Int) (t2 t3 t4 t5 t6 : Tok) (n : Int) (t : Tok) (u : Str → Option Value) (h : Heap) (tk : Nat) (rest : List (Addr × Obj)),
      c = f + bk - cm → p = dn - bk → 0 ≤ c → dn ≤ cm → bk ≤ dn → (∀ q ∈ rest, q.1 ≠ x) → (∀ q ∈ rest, q.1 ≠ d) →
      Fr g env.locals h (fun y => if y = Str.ofString "drawn" then some (.int n t) else if y = Str.ofString "first" then some (.int f tf) else if y = Str.ofString "numbers" then some (.ref l) else
        if y = Str.ofString "manager" then some (.ref x) else if y = Str.ofString "least" then some (.int le tl) else if y = Str.ofString "came" then some (.int cm t4) else
        if y = Str.ofString "done" then some (.int dn t5) else if y = Str.ofString "back" then some (.int bk t6) else u y) →
      News g env.locals h ((x, instObj 110 d) :: (d, mgr W k1 k2 k3 f t1 c t2 p t3) :: rest) →
      wpAny (model prog w) A (execs body env) (MyPost (PLed W x d k1 k2 k3 f t1) (Pps x l f tf le tl) (PP f) g env.locals rest { s with heap := h, toks := tk } Q) E { s with heap := h, toks := tk })
    (done : ∀ (u : Str → Option Value) (h : Heap) (tk : Nat), Fr g env.locals h u → News g env.locals h news → Q .next { s with heap := h, toks := tk }) :
    wpAny (model prog w) A (pyIter (.ref l)) (fun it s₂ => LoopAtV prog w A g env (Str.ofString "drawn") body Q E it s₂) E s := by
  refine my_iter (PLed W x d k1 k2 k3 f t1) (Pps x l f tf le tl) (PP f) ⟨f, 0, 0, 0, 0, t2, t3, t4, t5, t6⟩ hh hl hi F N ?_ ?_ ?_ ?_ ?_
  · intro q hq b hb
    simp only [PLed, List.mem_cons, List.not_mem_nil, or_false] at hb
    rcases hb with rfl | rfl
    · exact hox q hq
    · exact hod q hq
  · intro q hq
    simp only [Pps, List.mem_cons, List.not_mem_nil, or_false] at hq
    rcases hq with rfl | rfl | rfl | rfl | rfl | rfl | rfl
    · exact f1
    · exact f2
    · exact f3
    · exact f4
    · exact f5
    · exact f6
    · exact f7
  · exact ⟨by simp, by simp, h0, Int.le_refl _, Int.le_refl _⟩
  · rintro ⟨c, p, cm, dn, bk, t2, t3, t4, t5, t6⟩ n t u h tk rest ⟨a1, a2, a3, a4, a5⟩ ho F' N'
    exact turn c p cm dn bk t2 t3 t4 t5 t6 n t u h tk rest a1 a2 a3 a4 a5 (fun q hq => ho q hq (x, instObj 110 d) (.head _)) (fun q hq => ho q hq _ (.tail _ (.head _))) F' N'
  · intro c u h tk _ F' N'
    exact done u h tk F' fun p hp => N' p (List.mem_append.mpr (.inr hp))
end
end Mine
end
section
open PySem PySem.W PyProof.Rows PySem.Calls
namespace Mine
section
variable {prog : Program} {w : World} {A : Around} {E : Value → Shared → Prop} {s : Shared} {h₀ : Heap} {L : Addr} {m : Str → Option Value} {news : List (Addr × Obj)}
theorem min2 {a b : Int} {t u : Tok} {Q : Value → Shared → Prop} (hh : A.handled = none) (F : Fr h₀ L s.heap m) (N : News h₀ L s.heap news)
    (h : ∀ v t' h' tk, v ≤ a → v ≤ b → (v = a ∨ v = b) → Fr h₀ L h' m → News h₀ L h' news → Q (.int v t') { s with heap := h', toks := tk }) :
    wpAny (model prog w) A (call (.builtin "min") [.int a t, .int b u]) Q E s :=
  min_two_N hh F N fun h' tk F' N' => h _ _ h' tk (by split <;> omega) (by split <;> omega) (by split <;> simp) F' N'
theorem max2 {a b : Int} {t u : Tok} {Q : Value → Shared → Prop} (hh : A.handled = none) (F : Fr h₀ L s.heap m) (N : News h₀ L s.heap news)
    (h : ∀ v t' h' tk, a ≤ v → b ≤ v → (v = a ∨ v = b) → Fr h₀ L h' m → News h₀ L h' news → Q (.int v t') { s with heap := h', toks := tk }) :
    wpAny (model prog w) A (call (.builtin "max") [.int a t, .int b u]) Q E s :=
  max_two_N hh F N fun h' tk F' N' => h _ _ h' tk (by split <;> omega) (by split <;> omega) (by split <;> simp) F' N'
end
local macro_rules | `(tactic| walk_at "call builtin:min") => `(tactic| (k_here; (with_reducible show wpAny _ _ (call (Value.builtin _) [Value.int _ _, Value.int _ _]) _ _ _); (with_unfolding_all refine' min2 ?k1 ?k2 ?k3 ?_; (case k1 => with_unfolding_all rfl); (case k2 => k_asm); (case k3 => k_asm)); intro v' t' h' tk' hv1' hv2' hv3' F' N'))
local macro_rules | `(tactic| walk_at "call builtin:max") => `(tactic| (k_here; (with_reducible show wpAny _ _ (call (Value.builtin _) [Value.int _ _, Value.int _ _]) _ _ _); (with_unfolding_all refine' max2 ?k1 ?k2 ?k3 ?_; (case k1 => with_unfolding_all rfl); (case k2 => k_asm); (case k3 => k_asm)); intro v' t' h' tk' hv1' hv2' hv3' F' N'))
local macro_rules | `(tactic| k_all) => `(tactic| assumption)
set_option maxRecDepth 100000 in
set_option maxHeartbeats 0 in
theorem comes_true {w : World} {e₁ : Env} {A₀ : Around} {base h₀ : Heap} {L a : Addr} {m : Str → Option Value} {cn : Str} {cs : Scope} {ccd : Value} {rest : List (Addr × Obj)} {s : Shared}
    {loose : List Str} {mean : ExcName → Option Value} {mg mb : Str → Option Value} {Q E : Value → Shared → Prop} {x d : Addr} {k1 k2 k3 t1 t2 t3 tz : Tok} {M c p z : Int}
    (hck : cs.kind = .function) (B : Below A₀ base [e₁] h₀) (F : Fr h₀ L s.heap m) (X₀ : (hd.heap_39 w.params).In h₀)
    (N : News h₀ L s.heap ((x, instObj 110 d) :: (d, mgr w.params k1 k2 k3 M t1 c t2 p t3) :: rest)) (T : Top hd.view_39 loose mean mg mb h₀)
    (hxd : @LT.lt Nat _ d x) (hox : ∀ q ∈ rest, q.1 ≠ x) (hod : ∀ q ∈ rest, q.1 ≠ d) (hz : z ≤ c)
    (h1 : ∀ t h' tk', Fr h₀ L h' m → News h₀ L h' ((x, instObj 110 d) :: (d, mgr w.params k1 k2 k3 M t1 (c - z) t p t3) :: rest) → Q (.bool true) { s with heap := h', toks := tk' }) :
    wpAny (model PySem.Challenge.rw_ix0029_01.row.prog w) ((callerA.deeper e₁).deeper (envOf cn cs L a ccd)) (call (.ref 135) [.ref x, .int z tz]) Q E s := by
  w_top off
  (revert X₀; k_fill; intro X₀)
  refine wpAny_call ?_
  refine' code_def (env := envOf cn cs L a ccd) (outer := [e₁]) B F X₀ N T ?kA rfl hck ?k6 ?k7 ?k8 ?k9 ?kB ?_ ?c2 ?c3 ?c4 ?c5
  (case kA => exact rfl)
  (case k6 => k_is)
  (case k7 => k_is)
  (case k8 => k_room)
  (case k9 => exact BindsTo.of_eq rfl)
  (case kB => exact locs rfl)
  (case c2 => exact rfl)
  (case c3 => exact rfl)
  (case c4 => exact rfl)
  (case c5 => decide)
  intro g' L' h' FG' F' N' B' X' T'
  (try dsimp only)
  (try k_lift B')
  (try k_fold)
  k_steps
  exact h1 _ _ _ (by assumption) (by assumption)
set_option maxRecDepth 100000 in
set_option maxHeartbeats 0 in
theorem pb_cut {w : World} {e₁ : Env} {A₀ : Around} {base h₀ : Heap} {L a : Addr} {m : Str → Option Value} {cn : Str} {cs : Scope} {ccd : Value} {rest : List (Addr × Obj)} {s : Shared}
    {loose : List Str} {mean : ExcName → Option Value} {mg mb : Str → Option Value} {Q E : Value → Shared → Prop} {x d : Addr} {k1 k2 k3 t1 t2 t3 tz : Tok} {M c p z : Int} {f : Value}
    (hf : f = .ref 100)
    (hck : cs.kind = .function) (B : Below A₀ base [e₁] h₀) (F : Fr h₀ L s.heap m) (X₀ : (hd.heap_39 w.params).In h₀)
    (N : News h₀ L s.heap ((x, instObj 110 d) :: (d, mgr w.params k1 k2 k3 M t1 c t2 p t3) :: rest)) (T : Top hd.view_39 loose mean mg mb h₀)
    (hxd : @LT.lt Nat _ d x) (hox : ∀ q ∈ rest, q.1 ≠ x) (hod : ∀ q ∈ rest, q.1 ≠ d)
    (h1 : p + z = 0 → ∀ t h' tk', Fr h₀ L h' m → News h₀ L h' ((x, instObj 110 d) :: (d, mgr w.params k1 k2 k3 M t1 c t2 (p + z) t) :: rest) → Q .none { s with heap := h', toks := tk' })
    (h2 : ∀ i, p + z ≠ 0 → ((c = 0 ∧ (1024 < p + z ∨ M.fdiv 4 < p + z)) ∨ M.fdiv 2 ≤ p + z) → i ≤ p + z → i ≤ M - c → (i = p + z ∨ i = M - c) →
      ∀ ti t t' h' tk', Fr h₀ L h' m → News h₀ L h' ((x, instObj 110 d) :: (d, mgr w.params k1 k2 k3 M t1 (c + i) t 0 t') :: rest) → Q (.int i ti) { s with heap := h', toks := tk' })
    (h3 : p + z ≠ 0 → (c ≠ 0 ∨ (p + z ≤ 1024 ∧ p + z ≤ M.fdiv 4)) → p + z < M.fdiv 2 →
      ∀ ti t t' h' tk', Fr h₀ L h' m → News h₀ L h' ((x, instObj 110 d) :: (d, mgr w.params k1 k2 k3 M t1 (c + 0) t (p + z) t') :: rest) → Q (.int 0 ti) { s with heap := h', toks := tk' }) :
    wpAny (model PySem.Challenge.rw_ix0029_01.row.prog w) ((callerA.deeper e₁).deeper (envOf cn cs L a ccd)) (call f [.ref x, .int z tz]) Q E s := by
  subst hf
  w_top off
  (revert X₀; k_fill; intro X₀)
  refine wpAny_call ?_
  refine' code_def (env := envOf cn cs L a ccd) (outer := [e₁]) B F X₀ N T ?kA rfl hck ?k6 ?k7 ?k8 ?k9 ?kB ?_ ?c2 ?c3 ?c4 ?c5
  (case kA => exact rfl)
  (case k6 => k_is)
  (case k7 => k_is)
  (case k8 => k_room)
  (case k9 => exact BindsTo.of_eq rfl)
  (case kB => exact locs rfl)
  (case c2 => exact rfl)
  (case c3 => exact rfl)
  (case c4 => exact rfl)
  (case c5 => decide)
  intro g' L' h' FG' F' N' B' X' T'
  (try dsimp only)
  (try k_lift B')
  (try k_fold)
  k_steps
  all_goals first
    | exact h1 (by omega) _ _ _ (by assumption) (by assumption)
    | exact h3 (by omega) (by omega) (by omega) _ _ _ _ _ (by assumption) (by assumption)
    | exact h2 _ (by omega) (by omega) (by omega) (by omega) (by omega) _ _ _ _ _ (by assumption) (by assumption)

end Mine
end
section
open PySem PySem.W PyProof.Rows PySem.Calls
namespace Mine
local macro_rules | `(tactic| walk_at "call ref") => `(tactic| (k_here; (with_reducible show wpAny _ _ (call (Value.ref 128) _) _ _ _); k_dflt (refine' size_cut ?k1 ?k2 ?k3 ?k4 ?k5 ?k6 ?_; (case k1 => exact rfl); (case k2 => k_asm); (case k3 => k_asm); (case k4 => k_asm); (case k5 => k_asm); (case k6 => k_asm); k_whole; intro v' t' h' tk' hv' F' N'; (try k_sweep))))
local macro_rules | `(tactic| walk_at "call ref") => `(tactic| (k_here; (with_reducible show wpAny _ _ (call (Value.ref 135) _) _ _ _); k_dflt (refine' comes_true ?k1 ?k2 ?k3 ?k4 ?k5 ?k6 ?k7 ?k8 ?k9 ?ka ?_; (case k1 => exact rfl); (case k2 => k_asm); (case k3 => k_asm); (case k4 => k_asm); (case k5 => k_asm); (case k6 => k_asm); (case k7 => k_asm); (case k8 => k_asm); (case k9 => k_asm); (case ka => omega); k_whole; intro t' h' tk' F' N'; (try k_sweep))))
local macro_rules | `(tactic| walk_at "call ref") => `(tactic| (k_here; (with_reducible show wpAny _ _ (call (Value.ref 100) _) _ _ _); k_dflt (refine' pb_cut (f := Value.ref 100) rfl ?k1 ?k2 ?k3 ?k4 ?k5 ?k6 ?k7 ?k8 ?k9 ?_ ?_ ?_; (case k1 => exact rfl); (case k2 => k_asm); (case k3 => k_asm); (case k4 => k_asm); (case k5 => k_asm); (case k6 => k_asm); (case k7 => k_asm); (case k8 => k_asm); (case k9 => k_asm); (all_goals (intros; first | (exfalso; omega) | ((try k_sweep); (try dsimp only)))))))
local macro_rules | `(tactic| walk_at "ite") => `(tactic| (k_here; k_openite; k_dflt (first
  | (refine ite_pos (by first | omega | ((simp only [beq_iff_eq, bne_iff_ne, ne_eq, Bool.not_eq_true, Bool.not_eq_true', beq_eq_false_iff_ne, bne_eq_false_iff_eq, decide_eq_true_eq, decide_eq_false_iff_not, Bool.and_eq_true, Bool.or_eq_true, Decidable.not_not]); omega)) ?_)
  | (refine ite_neg (by first | omega | ((simp only [beq_iff_eq, bne_iff_ne, ne_eq, Bool.not_eq_true, Bool.not_eq_true', beq_eq_false_iff_ne, bne_eq_false_iff_eq, decide_eq_true_eq, decide_eq_false_iff_not, Bool.and_eq_true, Bool.or_eq_true, Decidable.not_not]); omega)) ?_))))
local macro_rules | `(tactic| walk_at "call builtin:min") => `(tactic| (k_here; (with_reducible show wpAny _ _ (call (Value.builtin _) [Value.int _ _, Value.int _ _]) _ _ _); (with_unfolding_all refine' min2 ?k1 ?k2 ?k3 ?_; (case k1 => with_unfolding_all rfl); (case k2 => k_asm); (case k3 => k_asm)); intro v' t' h' tk' hv1' hv2' hv3' F' N'; (try k_sweep)))
local macro_rules | `(tactic| k_all) => `(tactic| assumption)
local macro_rules | `(tactic| walk_at "MyPost") => `(tactic| (dsimp only [MyPost]))
local macro_rules | `(tactic| walk_at "MyEnd") => `(tactic| k_dflt (refine' plain_end ?F ?N ?hx ?hd ?hr ?hox ?hod ?f1 ?f2 ?f3 ?f4 ?f5 ?f6 ?f7 ?a1 ?a2 ?a3 ?a4 ?a5; (case F => k_asm); (case N => k_asm); (case hx => k_mem); (case hd => k_mem); (case hr => (intro p hp; k_ownIn)); (case hox => k_asm); (case hod => k_asm); (case f1 => with_unfolding_all rfl); (case f2 => with_unfolding_all rfl); (case f3 => with_unfolding_all rfl); (case f4 => with_unfolding_all rfl); (case f5 => with_unfolding_all rfl); (case f6 => with_unfolding_all rfl); (case f7 => with_unfolding_all rfl); (case a1 => omega); (case a2 => omega); (case a3 => omega); (case a4 => omega); (case a5 => omega)))
set_option maxRecDepth 100000 in
set_option maxHeartbeats 0 in
theorem plain_cut {w : World} {A₀ : Around} {base h₀ : Heap} {L a : Addr} {m : Str → Option Value} {cn : Str} {cs : Scope} {ccd : Value} {news : List (Addr × Obj)} {s : Shared}
    {loose : List Str} {mean : ExcName → Option Value} {mg mb : Str → Option Value} {Q E : Value → Shared → Prop} {l : Addr} {vs : List Value} {ns : List Int} {nn : Nat} {f : Int} {tf : Tok}
    (hck : cs.kind = .function) (B : Below A₀ base [] h₀) (F : Fr h₀ L s.heap m) (X₀ : (hd.heap_39 w.params).In h₀) (N : News h₀ L s.heap news) (T : Top hd.view_39 loose mean mg mb h₀)
    (hl : (l, W.listOf vs.toArray nn) ∈ news) (hi : IntsAre vs ns) (h0 : 0 ≤ f) (h1 : f ≤ 2147483647)
    (h : ∀ h' tk', Fr h₀ L h' m → News h₀ L h' news → Q (.bool true) { s with heap := h', toks := tk' }) :
    wpAny (model PySem.Challenge.rw_ix0029_01.row.prog w) (callerA.deeper (envOf cn cs L a ccd)) (call (.ref 149) [.int f tf, .ref l]) Q E s := by
  w_top off
  (revert X₀; k_fill; intro X₀)
  refine wpAny_call ?_
  refine' code_def (env := envOf cn cs L a ccd) (outer := []) B F X₀ N T ?kA rfl hck ?k6 ?k7 ?k8 ?k9 ?kB ?_ ?c2 ?c3 ?c4 ?c5
  (case kA => exact rfl)
  (case k6 => k_is)
  (case k7 => k_is)
  (case k8 => k_room)
  (case k9 => exact BindsTo.of_eq rfl)
  (case kB => exact locs rfl)
  (case c2 => exact rfl)
  (case c3 => exact rfl)
  (case c4 => exact rfl)
  (case c5 => decide)
  intro g' L' h' FG' F' N' B' X' T'
  (try dsimp only)
  (try k_lift B')
  (try k_fold)
  repeat' ((fail_if_success with_reducible show wpAny _ _ (pyIter (Value.ref _)) _ _ _); first | (k_unfold; (try dsimp only)) | (k_end; wrow_close) | walk1 | (dsimp only; walk1) | (leave1; try dsimp only) | fail "no step")
  (rename Fr _ _ _ _ => F1)
  (with_unfolding_all refine' For_invVF F1 ?k1 ?k2 ?_; (case k1 => exact rfl); (case k2 => exact rfl))
  repeat' ((fail_if_success with_reducible show wpAny _ _ (pyIter (Value.ref _)) _ _ _); first | (k_unfold; (try dsimp only)) | (k_end; wrow_close) | walk1 | (dsimp only; walk1) | (leave1; try dsimp only) | fail "no step")
  (rename News _ _ _ _ => N1)
  (rename Fr _ _ _ _ => F2)
  (rename ∀ p ∈ _, _ < _ => l1)
  (rename _ < _ => l2)
  refine plain_iter rfl hl hi F2 N1 (fun q hq => ?_) (fun q hq => ?_) h0 rfl rfl rfl rfl rfl rfl rfl ?_ ?_
  · exact Nat.ne_of_lt (Nat.lt_trans (l1 q hq) l2)
  · exact Nat.ne_of_lt (l1 q hq)
  · intro c p cm dn bk t2 t3 t4 t5 t6 n t u h3 tk3 rest a1 a2 a3 a4 a5 ox od F3 N3
    (try k_fold)
    k_steps
    all_goals (exfalso; omega)
  · intro u h3 tk3 F3 N3
    k_steps
    exact h _ _ (by assumption) (by assumption)
end Mine
end
section
open PySem PySem.W PyProof.Rows PySem.Calls PySem.Spec
namespace Mine
section
variable {prog : Program} {w : World} {A : Around} {E : Value → Shared → Prop} {s : Shared} {env : Env} {x : Str} {body : List Stmt} {Q : Flow → Shared → Prop} {σ : Type}

/-- the end of a turn over a family G of bases -/
def MyEndG (G : Heap → Prop) (Led : σ → List (Addr × Obj)) (ps : σ → List (Str × Value)) (P : σ → Prop) (L : Addr) (rest : List (Addr × Obj)) (s₁ s₂ : Shared) : Prop :=
  ∃ g, G g ∧ MyEnd Led ps P g L rest s₁ s₂
def MyPostG (G : Heap → Prop) (Led : σ → List (Addr × Obj)) (ps : σ → List (Str × Value)) (P : σ → Prop) (L : Addr) (rest : List (Addr × Obj)) (s₁ : Shared) (Q : Flow → Shared → Prop) (f : Flow) (s₂ : Shared) : Prop :=
  match f with
  | .ret v => Q (.ret v) s₂
  | .brk => Q .next s₂
  | _ => MyEndG G Led ps P L rest s₁ s₂

/-- what a for over a list of the ledger wants, the base a member of the family G, turned or not by each turn -/
def LoopG (prog : Program) (w : World) (A : Around) (σ : Type) (env : Env) (x : Str) (body : List Stmt) (Q : Flow → Shared → Prop) (E : Value → Shared → Prop) (it : Value) (s : Shared) : Prop :=
  ∃ (G : Heap → Prop) (Led : σ → List (Addr × Obj)) (ps : σ → List (Str × Value)) (P : σ → Prop) (c₀ : σ) (g : Heap) (I l : Addr) (vs : List Value) (ns : List Int) (nn : Nat) (m₀ : Str → Option Value) (news : List (Addr × Obj)),
    it = .ref I ∧ A.handled = none ∧ l ≠ I ∧ env.locals ≠ I ∧ (∀ g', G g' → g'.get? I = none) ∧ (∀ p ∈ news, p.1 ≠ I) ∧ (∀ p ∈ Led c₀, p.1 ≠ I) ∧ s.heap.IsListIter I l 0 ∧ (l, PySem.W.listOf vs.toArray nn) ∈ news ∧ IntsAre vs ns ∧
    G g ∧ Fr g env.locals s.heap m₀ ∧ News g env.locals s.heap (Led c₀ ++ news) ∧ (∀ q ∈ news, ∀ p ∈ Led c₀, q.1 ≠ p.1) ∧ (∀ p ∈ ps c₀, m₀ p.1 = some p.2) ∧ P c₀ ∧
    (∀ (c : σ) (n : Int) (t : Tok) (u : Str → Option Value) (g₁ h : Heap) (tk : Nat) (rest : List (Addr × Obj)), G g₁ → P c → (∀ q ∈ rest, ∀ p ∈ Led c, q.1 ≠ p.1) →
      Fr g₁ env.locals h (fun y => if y = x then some (.int n t) else kstB u (ps c) y) → News g₁ env.locals h (Led c ++ rest) →
      wpAny (model prog w) A (execs body env) (MyPostG G Led ps P env.locals rest { s with heap := h, toks := tk } Q) E { s with heap := h, toks := tk }) ∧
    ∀ (c : σ) (u : Str → Option Value) (g₁ h : Heap) (tk : Nat), G g₁ → P c → Fr g₁ env.locals h u → News g₁ env.locals h (Led c ++ news) → Q .next { s with heap := h, toks := tk }

theorem forLoop_G {px : Pos} {R : Result → Shared → Prop} {it : Value} (hx : env.kindOf x = some .local)
    (hp : (env.scope.kind == .class || (env.scope.kind == .module && env.locals != env.globals)) = false)
    (h : LoopG prog w A σ env x body (fun f s' => R (.ok f) s') (notedBy (model prog w) A env fun e s' => R (.error e) s') it s) :
    codeAny (model prog w) A (.forLoop (.Name x px) it body [] env) R s := by
  obtain ⟨G, Led, ps, P, c₀, g, I, l, vs, ns, nn, m₀, news, rfl, hh, hlI, hLI, hGI, hnI, hcI, hit, hl, hi, hG, F, N, ho, hk, hP, turn, done⟩ := h
  have W := Walks.list (prog := prog) (w := w) hh I l hlI vs.toArray
  refine codeAny_forLoop
    (fun k s' => ∃ g' h' tk m' c i, s' = { s with heap := h', toks := tk } ∧ h'.IsListIter I l i ∧ G g' ∧ Fr g' env.locals h' m' ∧ News g' env.locals h' (Led c ++ news) ∧ (∀ p ∈ Led c, p.1 ≠ I) ∧
      (∀ q ∈ news, ∀ p ∈ Led c, q.1 ≠ p.1) ∧ (∀ p ∈ ps c, m' p.1 = some p.2) ∧ P c ∧ i ≤ vs.toArray.size ∧ k = vs.toArray.size + 1 - i) ?_ (vs.toArray.size + 1)
    ⟨g, s.heap, s.toks, m₀, c₀, 0, rfl, hit, hG, F, N, hcI, ho, hk, hP, Nat.zero_le _, rfl⟩
  rintro k s' ⟨g', h', tk, m', c, i, rfl, hit', hG', F', N', hcI', ho', hk', hP', hin, rfl⟩
  have hls : h'.IsList l vs.toArray := ⟨_, (N' _ (List.mem_append.mpr (.inr hl))).1, rfl, nn, rfl⟩
  have next : ∀ h₁ : Heap, (∀ b o, b ∉ [I] → h'.get? b = some o → h₁.get? b = some o) → Fr g' env.locals h₁ m' ∧ News g' env.locals h₁ (Led c ++ news) := fun h₁ hk₁ =>
    ⟨⟨F'.ns.at' fun o e => hk₁ _ o (fun q => hLI (List.mem_singleton.mp q)) e, fun b o e => hk₁ b o (fun q => by have := hGI g' hG'; rw [← List.mem_singleton.mp q, e] at this; cases this) (F'.keep b o e), F'.above⟩,
      fun p hp => ⟨hk₁ _ _ (fun q => (List.mem_append.mp hp).elim (fun hp => hcI' p hp (List.mem_singleton.mp q)) fun hp => hnI p hp (List.mem_singleton.mp q)) (N' p hp).1, (N' p hp).2⟩⟩
  by_cases hlt : i < vs.toArray.size
  · refine W.item i _ _ _ hlt ⟨hit', hls⟩ fun v h₁ tk₁ hPv hst₁ hk₁ => ?_
    obtain ⟨F₁, N₁⟩ := next h₁ hk₁
    refine wpAny_assign_Name (wpAny_storeName_local hx F₁.ns (fun h₂ hn₂ hs₂ => ?_) hp)
    have F₂ := F₁.set hn₂ hs₂
    have N₂ := N₁.set hs₂
    obtain ⟨n, t, rfl, _⟩ := hi.at i v (by simpa using hPv)
    obtain ⟨⟨oI, hoI, hIc, hId⟩, _⟩ := hst₁
    have hoI₂ : h₂.get? I = some oI := (hs₂.2 I fun q => hLI q.symm).trans hoI
    have hIn : ∀ q ∈ news ++ [(I, oI)], ∀ p ∈ Led c, q.1 ≠ p.1 := fun q hq p hp => by
      rcases List.mem_append.mp hq with hq | hq
      · exact ho' q hq p hp
      · rw [List.mem_singleton.mp hq]
        exact fun e => hcI' p hp e.symm
    have F₃ : Fr g' env.locals h₂ (fun y => if y = x then some (.int n t) else kstB m' (ps c) y) := by rw [kst_all_eq hk']; exact F₂
    have N₃ : News g' env.locals h₂ (Led c ++ (news ++ [(I, oI)])) := fun p hp => by
      rcases List.mem_append.mp hp with hp | hp
      · exact N₂ p (List.mem_append.mpr (.inl hp))
      · rcases List.mem_append.mp hp with hp | hp
        · exact N₂ p (List.mem_append.mpr (.inr hp))
        · rw [List.mem_singleton.mp hp]
          exact ⟨hoI₂, fun q => hLI q.symm, hGI g' hG'⟩
    refine wpAny_mono (turn c n t m' g' h₂ _ (news ++ [(I, oI)]) hG' hP' hIn F₃ N₃) (fun f s₃ h₃ => ?_) fun _ _ e => e
    have fin : ∀ tk₀, MyEndG G Led ps P env.locals (news ++ [(I, oI)]) { s with heap := h₂, toks := tk₀ } s₃ →
        ∃ k', k' < vs.toArray.size + 1 - i ∧ ∃ g' h' tk m' c i, s₃ = { s with heap := h', toks := tk } ∧ h'.IsListIter I l i ∧ G g' ∧ Fr g' env.locals h' m' ∧ News g' env.locals h' (Led c ++ news) ∧ (∀ p ∈ Led c, p.1 ≠ I) ∧
          (∀ q ∈ news, ∀ p ∈ Led c, q.1 ≠ p.1) ∧ (∀ p ∈ ps c, m' p.1 = some p.2) ∧ P c ∧ i ≤ vs.toArray.size ∧ k' = vs.toArray.size + 1 - i := by
      rintro tk₀ ⟨g₂, hG₂, c₂, h₃', tk₃, m₂, news₂, rfl, F₄, N₄, hn, hr, hd, hf, hp₂⟩
      have hI₄ := N₄ (I, oI) (hr _ (List.mem_append.mpr (.inr (List.mem_singleton.mpr rfl))))
      refine ⟨_, ?_, g₂, h₃', tk₃, m₂, c₂, i + 1, rfl, ⟨oI, hI₄.1, hIc, hId⟩, hG₂, F₄, fun p hp => (List.mem_append.mp hp).elim (fun hp => N₄ p (hn p hp)) fun hp => N₄ p (hr p (List.mem_append.mpr (.inl hp))),
        fun p hp e => hd (I, oI) (List.mem_append.mpr (.inr (List.mem_singleton.mpr rfl))) p hp e.symm, fun q hq => hd q (List.mem_append.mpr (.inl hq)), hf, hp₂, hlt, rfl⟩
      omega
    cases f with
    | ret v => exact h₃
    | brk => exact h₃
    | cont => exact fin _ h₃
    | next => exact fin _ h₃
  · have hie : i = vs.toArray.size := by omega
    subst hie
    refine W.done _ _ _ ⟨hit', hls⟩ fun h₁ tk₁ hk₁ => wpAny_execs_nil ?_
    obtain ⟨F₁, N₁⟩ := next h₁ hk₁
    exact done c m' g' h₁ tk₁ hG' hP' F₁ N₁

theorem For_G (σ : Type) {px pos : Pos} {iter : Expr} (hx : env.kindOf x = some .local)
    (hp : (env.scope.kind == .class || (env.scope.kind == .module && env.locals != env.globals)) = false)
    (h : wpAny (model prog w) A (eval iter env) (fun xv s₁ => wpAny (model prog w) A (pyIter xv) (fun it s₂ => LoopG prog w A σ env x body Q E it s₂) E s₁) E s)
    (hs : ∀ x, foldedSetIterable iter env x = pure x := by intro _; rfl)
    (hE : PassesOwn (model prog w) A env E := by passes_own) :
    wpAny (model prog w) A (exec (.For (.Name x px) iter body [] pos) env) Q E s := by
  refine wpAny_For (wpAny_mono h (fun xv s₁ h₁ => wpAny_mono h₁ (fun it s₂ h₂ => ?_) fun _ _ e => e) fun _ _ e => e) hs
  refine forLoop_G (σ := σ) (R := fun r s' => match r with | .ok f => Q f s' | .error e => cameBackBy (model prog w) A env E e s') hx hp ?_
  obtain ⟨G, Led, ps, P, c₀, g, I, l, vs, ns, nn, m₀, news, a1, a2, a3, a4, a5, a6, a7, a8, a9, b1, b2, b3, b4, b5, b6, b7, turn, done⟩ := h₂
  exact ⟨G, Led, ps, P, c₀, g, I, l, vs, ns, nn, m₀, news, a1, a2, a3, a4, a5, a6, a7, a8, a9, b1, b2, b3, b4, b5, b6, b7, fun c n t u g₁ h tk rest q1 q2 q3 q4 q5 => wpAny_passesOwn hE (turn c n t u g₁ h tk rest q1 q2 q3 q4 q5), done⟩

theorem iter_G {g : Heap} {l : Addr} {vs : List Value} {ns : List Int} {nn : Nat} {m₀ : Str → Option Value} {news : List (Addr × Obj)} (G : Heap → Prop) (Led : σ → List (Addr × Obj)) (ps : σ → List (Str × Value)) (P : σ → Prop) (c₀ : σ)
    (hh : A.handled = none) (hl : (l, PySem.W.listOf vs.toArray nn) ∈ news) (hi : IntsAre vs ns) (hnone : ∀ g', G g' → ∀ b, g.get? b = none → g'.get? b = none) (hG : G g) (F : Fr g env.locals s.heap m₀) (N : News g env.locals s.heap (Led c₀ ++ news))
    (ho : ∀ q ∈ news, ∀ p ∈ Led c₀, q.1 ≠ p.1) (hk : ∀ p ∈ ps c₀, m₀ p.1 = some p.2) (hp : P c₀)
    (turn : ∀ (c : σ) (n : Int) (t : Tok) (u : Str → Option Value) (g₁ h : Heap) (tk : Nat) (rest : List (Addr × Obj)), G g₁ → P c → (∀ q ∈ rest, ∀ p ∈ Led c, q.1 ≠ p.1) →
      Fr g₁ env.locals h (fun y => if y = x then some (.int n t) else kstB u (ps c) y) → News g₁ env.locals h (Led c ++ rest) →
      wpAny (model prog w) A (execs body env) (MyPostG G Led ps P env.locals rest { s with heap := h, toks := tk } Q) E { s with heap := h, toks := tk })
    (done : ∀ (c : σ) (u : Str → Option Value) (g₁ h : Heap) (tk : Nat), G g₁ → P c → Fr g₁ env.locals h u → News g₁ env.locals h (Led c ++ news) → Q .next { s with heap := h, toks := tk }) :
    wpAny (model prog w) A (pyIter (.ref l)) (fun it s₂ => LoopG prog w A σ env x body Q E it s₂) E s := by
  have hol : s.heap.get? l = some (PySem.W.listOf vs.toArray nn) := (N _ (List.mem_append.mpr (.inr hl))).1
  have hls : s.heap.IsList l vs.toArray := ⟨_, hol, rfl, nn, rfl⟩
  have hne : l ≠ s.heap.objs.size := Nat.ne_of_lt (Heap.lt_size hol)
  refine wpAny_pyIter_list hls ?_
  refine ⟨G, Led, ps, P, c₀, g, s.heap.objs.size, l, vs, ns, nn, m₀, news, rfl, hh, hne, Nat.ne_of_lt F.ns.lt, fun g' hg' => hnone g' hg' _ (next_is_new F), fun p hp' e => ?_, fun p hp' e => ?_, ⟨_, Heap.get?_push_size _ rfl, rfl, rfl⟩, hl, hi, hG, F.push _,
    fun p hp' => ⟨Heap.get?_push_of_some _ (N p hp').1, (N p hp').2⟩, ho, hk, hp, turn, done⟩
  · exact absurd (Heap.lt_size (N p (List.mem_append.mpr (.inr hp'))).1) (e ▸ Nat.lt_irrefl _)
  · exact absurd (Heap.lt_size (N p (List.mem_append.mpr (.inl hp'))).1) (e ▸ Nat.lt_irrefl _)
end
end Mine
end
section
open PySem PySem.W PyProof.Rows PySem.Calls
namespace Mine
local macro_rules | `(tactic| k_all) => `(tactic| assumption)
local macro_rules | `(tactic| walk_at "call builtin:max") => `(tactic| (k_here; (with_reducible show wpAny _ _ (call (Value.builtin _) [Value.int _ _, Value.int _ _]) _ _ _); (with_unfolding_all refine' max2 ?k1 ?k2 ?k3 ?_; (case k1 => with_unfolding_all rfl); (case k2 => k_asm); (case k3 => k_asm)); intro v' t' h' tk' hv1' hv2' hv3' F' N'; (try k_sweep)))
set_option maxRecDepth 100000 in
set_option maxHeartbeats 0 in
theorem comes_cut {w : World} {A₀ : Around} {base g₀ h₀ : Heap} {L a L0 a0 : Addr} {m : Str → Option Value} {cn cn0 : Str} {cs cs0 : Scope} {ccd ccd0 : Value} {rest : List (Addr × Obj)} {s : Shared}
    {loose : List Str} {mean : ExcName → Option Value} {mg mb : Str → Option Value} {Q E : Value → Shared → Prop} {x d : Addr} {k1 k2 k3 t1 t2 t3 tz : Tok} {M c p z : Int}
    (hck : cs.kind = .function) (B : Below A₀ base [envOf cn0 cs0 L0 a0 ccd0] h₀) (F : Fr h₀ L s.heap m) (X₀ : (hd.heap_39 w.params).In h₀)
    (N : News h₀ L s.heap ((x, instObj 110 d) :: (d, mgr w.params k1 k2 k3 M t1 c t2 p t3) :: rest)) (T : Top hd.view_39 loose mean mg mb h₀)
    (XB : (hd.heap_39 w.params).In base) (TB : Top hd.view_39 loose mean mg mb base) (D : KtsDicts [L0] h₀) (T0 : KtsTurn [L0] g₀ h₀)
    (hxd : @LT.lt Nat _ d x) (hox : ∀ q ∈ rest, q.1 ≠ x) (hod : ∀ q ∈ rest, q.1 ≠ d)
    (h1 : z ≤ c → ∀ t h' tk', Fr h₀ L h' m → News h₀ L h' ((x, instObj 110 d) :: (d, mgr w.params k1 k2 k3 M t1 (c - z) t p t3) :: rest) → Q (.bool true) { s with heap := h', toks := tk' })
    (h2 : c < z → ∀ g' h' tk', KtsTurn [L0] g₀ g' → Below A₀ base [envOf cn0 cs0 L0 a0 ccd0] g' → (hd.heap_39 w.params).In g' → Top hd.view_39 loose mean mg mb g' → KtsDicts [L0] g' → Fr g' L h' m → News g' L h' rest → Q (.bool false) { s with heap := h', toks := tk' }) :
    wpAny (model PySem.Challenge.rw_ix0029_01.row.prog w) ((callerA.deeper (envOf cn0 cs0 L0 a0 ccd0)).deeper (envOf cn cs L a ccd)) (call (.ref 135) [.ref x, .int z tz]) Q E s := by
  w_top off
  (revert X₀; k_fill; intro X₀)
  refine wpAny_call ?_
  refine' code_defS (cs := cs) (cn := cn) (a := a) (ccd := ccd) (outer := [envOf cn0 cs0 L0 a0 ccd0]) B F X₀ N T XB TB D T0 ?kA ?k6 ?k7 ?k8 ?k9 ?kB ?_ hck ?c2 ?c3 ?c4 ?c5
  (case kA => exact rfl)
  (case k6 => k_is)
  (case k7 => k_is)
  (case k8 => k_room)
  (case k9 => exact BindsTo.of_eq rfl)
  (case kB => exact locs rfl)
  (case c2 => exact rfl)
  (case c3 => exact rfl)
  (case c4 => exact rfl)
  (case c5 => decide)
  intro g' L' h' FG' F' N' B' X' T' D'
  (try dsimp only)
  (try k_lift B')
  (try k_fold)
  k_steps
  · refine' h2 (by omega) _ _ _ ?qT ?qB ?qK ?qP ?qD ?qF ?qN
    case qF => assumption
    case qN => exact cb_drop (by assumption) (fun p hp => .tail _ (.tail _ hp))
    case qT => assumption
    case qB => assumption
    case qK => assumption
    case qP => assumption
    case qD => assumption
  · exact h1 (by omega) _ _ _ (by assumption) (by assumption)
set_option maxRecDepth 100000 in
set_option maxHeartbeats 0 in
theorem opens_cut {w : World} {A₀ : Around} {base g₀ h₀ : Heap} {L a L0 a0 : Addr} {m : Str → Option Value} {cn cn0 : Str} {cs cs0 : Scope} {ccd ccd0 : Value} {rest : List (Addr × Obj)} {s : Shared}
    {loose : List Str} {mean : ExcName → Option Value} {mg mb : Str → Option Value} {Q E : Value → Shared → Prop} {x d : Addr} {k1 k2 k3 t1 t2 t3 tz : Tok} {M c p z : Int}
    (hck : cs.kind = .function) (B : Below A₀ base [envOf cn0 cs0 L0 a0 ccd0] h₀) (F : Fr h₀ L s.heap m) (X₀ : (hd.heap_39 w.params).In h₀)
    (N : News h₀ L s.heap ((x, instObj 110 d) :: (d, mgr w.params k1 k2 k3 M t1 c t2 p t3) :: rest)) (T : Top hd.view_39 loose mean mg mb h₀)
    (XB : (hd.heap_39 w.params).In base) (TB : Top hd.view_39 loose mean mg mb base) (D : KtsDicts [L0] h₀) (T0 : KtsTurn [L0] g₀ h₀)
    (hxd : @LT.lt Nat _ d x) (hox : ∀ q ∈ rest, q.1 ≠ x) (hod : ∀ q ∈ rest, q.1 ≠ d)
    (h1 : c + z ≤ 2147483647 → ∀ v t t' h' tk', c + z ≤ v → M ≤ v → (v = c + z ∨ v = M) → Fr h₀ L h' m → News h₀ L h' ((x, instObj 110 d) :: (d, mgr w.params k1 k2 k3 v t (c + z) t' p t3) :: rest) → Q (.bool true) { s with heap := h', toks := tk' })
    (h2 : 2147483647 < c + z → ∀ g' h' tk', KtsTurn [L0] g₀ g' → Below A₀ base [envOf cn0 cs0 L0 a0 ccd0] g' → (hd.heap_39 w.params).In g' → Top hd.view_39 loose mean mg mb g' → KtsDicts [L0] g' → Fr g' L h' m → News g' L h' rest → Q (.bool false) { s with heap := h', toks := tk' }) :
    wpAny (model PySem.Challenge.rw_ix0029_01.row.prog w) ((callerA.deeper (envOf cn0 cs0 L0 a0 ccd0)).deeper (envOf cn cs L a ccd)) (call (.ref 142) [.ref x, .int z tz]) Q E s := by
  w_top off
  (revert X₀; k_fill; intro X₀)
  refine wpAny_call ?_
  refine' code_defS (cs := cs) (cn := cn) (a := a) (ccd := ccd) (outer := [envOf cn0 cs0 L0 a0 ccd0]) B F X₀ N T XB TB D T0 ?kA ?k6 ?k7 ?k8 ?k9 ?kB ?_ hck ?c2 ?c3 ?c4 ?c5
  (case kA => exact rfl)
  (case k6 => k_is)
  (case k7 => k_is)
  (case k8 => k_room)
  (case k9 => exact BindsTo.of_eq rfl)
  (case kB => exact locs rfl)
  (case c2 => exact rfl)
  (case c3 => exact rfl)
  (case c4 => exact rfl)
  (case c5 => decide)
  intro g' L' h' FG' F' N' B' X' T' D'
  (try dsimp only)
  (try k_lift B')
  (try k_fold)
  k_steps
  · refine' h2 (by omega) _ _ _ ?qT ?qB ?qK ?qP ?qD ?qF ?qN
    case qF => assumption
    case qN => exact cb_drop (by assumption) (fun p hp => .tail _ (.tail _ hp))
    case qT => assumption
    case qB => assumption
    case qK => assumption
    case qP => assumption
    case qD => assumption
  · exact h1 (by omega) _ _ _ _ _ (by omega) (by omega) (by omega) (by assumption) (by assumption)
end Mine
end
section
open PySem PySem.W PyProof.Rows PySem.Calls PySem.Spec
namespace Mine
/-- the manager at hand in _law_free -/
structure MS where
  x : Addr
  d : Addr
  k1 : Tok
  k2 : Tok
  k3 : Tok
  M : Int
  t1 : Tok
  c : Int
  t2 : Tok
  p : Int
  t3 : Tok
  tw : Tok
  tg : Tok
  tk : Tok
def FLed (P : Params) : Option MS → List (Addr × Obj)
  | none => []
  | some a => [(a.x, instObj 110 a.d), (a.d, mgr P a.k1 a.k2 a.k3 a.M a.t1 a.c a.t2 a.p a.t3)]
def Fps (l : Addr) (f : Int) (tf : Tok) : Option MS → List (Str × Value)
  | none => [(Str.ofString "first", .int f tf), (Str.ofString "numbers", .ref l), (Str.ofString "manager", .none)]
  | some a => [(Str.ofString "first", .int f tf), (Str.ofString "numbers", .ref l), (Str.ofString "manager", .ref a.x), (Str.ofString "window", .int a.c a.tw), (Str.ofString "greatest", .int a.M a.tg), (Str.ofString "kept", .int a.p a.tk)]
def FP : Option MS → Prop
  | none => True
  | some a => @LT.lt Nat _ a.d a.x ∧ 0 ≤ a.c ∧ a.c ≤ a.M ∧ 0 ≤ a.p
/-- the family of bases -/
structure FG (P : Params) (loose : List Str) (mean : ExcName → Option Value) (mg mb : Str → Option Value) (A₀ : Around) (base : Heap) (e₀ : Env) (L0 : Addr) (g₀ g : Heap) : Prop where
  turn : KtsTurn [L0] g₀ g
  below : Below A₀ base [e₀] g
  inK : (hd.heap_39 P).In g
  top : Top hd.view_39 loose mean mg mb g
  dicts : KtsDicts [L0] g
/-- the manager is there: what the rest of a turn starts from -/
def SomeSt (P : Params) (l : Addr) (f : Int) (tf : Tok) (n : Int) (t : Tok) (g : Heap) (L : Addr) (rest : List (Addr × Obj)) (s₁ s₂ : Shared) : Prop :=
  ∃ (x d : Addr) (k1 k2 k3 : Tok) (M : Int) (t1 : Tok) (c : Int) (t2 : Tok) (p : Int) (t3 tw tg tk : Tok) (h' : Heap) (tk' : Nat) (m' : Str → Option Value),
    s₂ = { s₁ with heap := h', toks := tk' } ∧ Fr g L h' m' ∧ News g L h' ((x, instObj 110 d) :: (d, mgr P k1 k2 k3 M t1 c t2 p t3) :: rest) ∧ @LT.lt Nat _ d x ∧ (∀ q ∈ rest, q.1 ≠ x) ∧ (∀ q ∈ rest, q.1 ≠ d) ∧
      m' (Str.ofString "drawn") = some (.int n t) ∧ m' (Str.ofString "first") = some (.int f tf) ∧ m' (Str.ofString "numbers") = some (.ref l) ∧ m' (Str.ofString "manager") = some (.ref x) ∧
      m' (Str.ofString "window") = some (.int c tw) ∧ m' (Str.ofString "greatest") = some (.int M tg) ∧ m' (Str.ofString "kept") = some (.int p tk) ∧ 0 ≤ c ∧ c ≤ M ∧ 0 ≤ p
section
variable {prog : Program} {w : World} {A : Around} {E : Value → Shared → Prop} {s : Shared} {env : Env} {g : Heap} {Q : Flow → Shared → Prop}
  {l : Addr} {f : Int} {tf : Tok} {P : Params} {loose : List Str} {mean : ExcName → Option Value} {mg mb : Str → Option Value} {A₀ : Around} {base : Heap} {e₀ : Env} {L0 : Addr} {g₀ : Heap}
theorem someSt {L x d : Addr} {k1 k2 k3 t1 t2 t3 tw tg tk t : Tok} {M c p n : Int} {rest news' : List (Addr × Obj)} {s₁ : Shared} {h' : Heap} {tk' : Nat} {m' : Str → Option Value}
    (F : Fr g L h' m') (N : News g L h' news') (hx : (x, instObj 110 d) ∈ news') (hd : (d, mgr P k1 k2 k3 M t1 c t2 p t3) ∈ news') (hr : ∀ q ∈ rest, q ∈ news') (hdx : @LT.lt Nat _ d x) (hox : ∀ q ∈ rest, q.1 ≠ x) (hod : ∀ q ∈ rest, q.1 ≠ d)
    (f0 : m' (Str.ofString "drawn") = some (.int n t)) (f1 : m' (Str.ofString "first") = some (.int f tf)) (f2 : m' (Str.ofString "numbers") = some (.ref l)) (f3 : m' (Str.ofString "manager") = some (.ref x))
    (f4 : m' (Str.ofString "window") = some (.int c tw)) (f5 : m' (Str.ofString "greatest") = some (.int M tg)) (f6 : m' (Str.ofString "kept") = some (.int p tk)) (a1 : 0 ≤ c) (a2 : c ≤ M) (a3 : 0 ≤ p) :
    SomeSt P l f tf n t g L rest s₁ { s₁ with heap := h', toks := tk' } :=
  ⟨x, d, k1, k2, k3, M, t1, c, t2, p, t3, tw, tg, tk, h', tk', m', rfl, F, fun q hq => by
    rcases List.mem_cons.mp hq with rfl | hq
    · exact N _ hx
    · rcases List.mem_cons.mp hq with rfl | hq
      · exact N _ hd
      · exact N _ (hr q hq), hdx, hox, hod, f0, f1, f2, f3, f4, f5, f6, a1, a2, a3⟩
theorem free_end_some {L x d : Addr} {k1 k2 k3 t1 t2 t3 tw tg tk : Tok} {M c p cw Mg pk : Int} {rest news' : List (Addr × Obj)} {s₁ : Shared} {h' : Heap} {tk' : Nat} {m' : Str → Option Value}
    (F : Fr g L h' m') (N : News g L h' news') (hG : FG P loose mean mg mb A₀ base e₀ L0 g₀ g) (hx : (x, instObj 110 d) ∈ news') (hd : (d, mgr P k1 k2 k3 M t1 c t2 p t3) ∈ news') (hr : ∀ q ∈ rest, q ∈ news') (hdx : @LT.lt Nat _ d x) (hox : ∀ q ∈ rest, q.1 ≠ x) (hod : ∀ q ∈ rest, q.1 ≠ d)
    (f1 : m' (Str.ofString "first") = some (.int f tf)) (f2 : m' (Str.ofString "numbers") = some (.ref l)) (f3 : m' (Str.ofString "manager") = some (.ref x))
    (f4 : m' (Str.ofString "window") = some (.int cw tw)) (f5 : m' (Str.ofString "greatest") = some (.int Mg tg)) (f6 : m' (Str.ofString "kept") = some (.int pk tk)) (a1 : 0 ≤ c) (a2 : c ≤ M) (a3 : 0 ≤ p) (b1 : cw = c) (b2 : Mg = M) (b3 : pk = p) :
    MyEndG (FG P loose mean mg mb A₀ base e₀ L0 g₀) (FLed P) (Fps l f tf) FP L rest s₁ { s₁ with heap := h', toks := tk' } := by
  subst b1 b2 b3
  refine ⟨g, hG, MyEnd.intro (some ⟨x, d, k1, k2, k3, Mg, t1, cw, t2, pk, t3, tw, tg, tk⟩) F N ?_ hr ?_ ?_ ⟨hdx, a1, a2, a3⟩⟩
  · intro q hq
    simp only [FLed, List.mem_cons, List.not_mem_nil, or_false] at hq
    rcases hq with rfl | rfl
    · exact hx
    · exact hd
  · intro q hq b hb
    simp only [FLed, List.mem_cons, List.not_mem_nil, or_false] at hb
    rcases hb with rfl | rfl
    · exact hox q hq
    · exact hod q hq
  · intro q hq
    simp only [Fps, List.mem_cons, List.not_mem_nil, or_false] at hq
    rcases hq with rfl | rfl | rfl | rfl | rfl | rfl
    · exact f1
    · exact f2
    · exact f3
    · exact f4
    · exact f5
    · exact f6
theorem free_end_none {L : Addr} {rest news' : List (Addr × Obj)} {s₁ : Shared} {h' : Heap} {tk' : Nat} {m' : Str → Option Value}
    (F : Fr g L h' m') (N : News g L h' news') (hG : FG P loose mean mg mb A₀ base e₀ L0 g₀ g) (hr : ∀ q ∈ rest, q ∈ news')
    (f1 : m' (Str.ofString "first") = some (.int f tf)) (f2 : m' (Str.ofString "numbers") = some (.ref l)) (f3 : m' (Str.ofString "manager") = some .none) :
    MyEndG (FG P loose mean mg mb A₀ base e₀ L0 g₀) (FLed P) (Fps l f tf) FP L rest s₁ { s₁ with heap := h', toks := tk' } := by
  refine ⟨g, hG, MyEnd.intro none F N (fun q hq => nomatch hq) hr (fun q _ b hb => nomatch hb) ?_ True.intro⟩
  intro q hq
  simp only [Fps, List.mem_cons, List.not_mem_nil, or_false] at hq
  rcases hq with rfl | rfl | rfl
  · exact f1
  · exact f2
  · exact f3
theorem free_iter {st : Stmt} {body : List Stmt} {vs : List Value} {ns : List Int} {nn : Nat} {m₀ : Str → Option Value} {news : List (Addr × Obj)}
    (hh : A.handled = none) (hl : (l, PySem.W.listOf vs.toArray nn) ∈ news) (hi : IntsAre vs ns) (hG : FG P loose mean mg mb A₀ base e₀ L0 g g) (F : Fr g env.locals s.heap m₀) (N : News g env.locals s.heap news)
    (f1 : m₀ (Str.ofString "first") = some (.int f tf)) (f2 : m₀ (Str.ofString "numbers") = some (.ref l)) (f3 : m₀ (Str.ofString "manager") = some .none)
    (turnN : ∀ (n : Int) (t : Tok) (u : Str → Option Value) (g₁ h : Heap) (tk : Nat) (rest : List (Addr × Obj)), FG P loose mean mg mb A₀ base e₀ L0 g g₁ →
      Fr g₁ env.locals h (fun y => if y = Str.ofString "drawn" then some (.int n t) else if y = Str.ofString "first" then some (.int f tf) else if y = Str.ofString "numbers" then some (.ref l) else if y = Str.ofString "manager" then some .none else u y) → News g₁ env.locals h rest →
      wpAny (model prog w) A (exec st env) (fun fl s' => fl = .next ∧ SomeSt P l f tf n t g₁ env.locals rest { s with heap := h, toks := tk } s') E { s with heap := h, toks := tk })
    (turnS : ∀ (x d : Addr) (k1 k2 k3 : Tok) (M : Int) (t1 : Tok) (c : Int) (t2 : Tok) (p : Int) (t3 tw tg tkk : Tok) (n : Int) (t : Tok) (u : Str → Option Value) (g₁ h : Heap) (tk : Nat) (rest : List (Addr × Obj)), FG P loose mean mg mb A₀ base e₀ L0 g g₁ →
      @LT.lt Nat _ d x → (∀ q ∈ rest, q.1 ≠ x) → (∀ q ∈ rest, q.1 ≠ d) → 0 ≤ c → c ≤ M → 0 ≤ p →
      Fr g₁ env.locals h (fun y => if y = Str.ofString "drawn" then some (.int n t) else if y = Str.ofString "first" then some (.int f tf) else if y = Str.ofString "numbers" then some (.ref l) else if y = Str.ofString "manager" then some (.ref x) else
        if y = Str.ofString "window" then some (.int c tw) else if y = Str.ofString "greatest" then some (.int M tg) else if y = Str.ofString "kept" then some (.int p tkk) else u y) →
      News g₁ env.locals h ((x, instObj 110 d) :: (d, mgr P k1 k2 k3 M t1 c t2 p t3) :: rest) →
      wpAny (model prog w) A (exec st env) (fun fl s' => fl = .next ∧ SomeSt P l f tf n t g₁ env.locals rest { s with heap := h, toks := tk } s') E { s with heap := h, toks := tk })
    (turnR : ∀ (x d : Addr) (k1 k2 k3 : Tok) (M : Int) (t1 : Tok) (c : Int) (t2 : Tok) (p : Int) (t3 tw tg tkk : Tok) (n : Int) (t : Tok) (u : Str → Option Value) (g₁ h : Heap) (tk : Nat) (rest : List (Addr × Obj)), FG P loose mean mg mb A₀ base e₀ L0 g g₁ →
      @LT.lt Nat _ d x → (∀ q ∈ rest, q.1 ≠ x) → (∀ q ∈ rest, q.1 ≠ d) → 0 ≤ c → c ≤ M → 0 ≤ p →
      Fr g₁ env.locals h (fun y => if y = Str.ofString "drawn" then some (.int n t) else if y = Str.ofString "first" then some (.int f tf) else if y = Str.ofString "numbers" then some (.ref l) else if y = Str.ofString "manager" then some (.ref x) else
        if y = Str.ofString "window" then some (.int c tw) else if y = Str.ofString "greatest" then some (.int M tg) else if y = Str.ofString "kept" then some (.int p tkk) else u y) →
      News g₁ env.locals h ((x, instObj 110 d) :: (d, mgr P k1 k2 k3 M t1 c t2 p t3) :: rest) →
      wpAny (model prog w) A (execs body env) (MyPostG (FG P loose mean mg mb A₀ base e₀ L0 g) (FLed P) (Fps l f tf) FP env.locals rest { s with heap := h, toks := tk } Q) E { s with heap := h, toks := tk })
    (done : ∀ (u : Str → Option Value) (g₁ h : Heap) (tk : Nat), FG P loose mean mg mb A₀ base e₀ L0 g g₁ → Fr g₁ env.locals h u → News g₁ env.locals h news → Q .next { s with heap := h, toks := tk }) :
    wpAny (model prog w) A (pyIter (.ref l)) (fun it s₂ => LoopG prog w A (Option MS) env (Str.ofString "drawn") (st :: body) Q E it s₂) E s := by
  have post : ∀ (g₁ h : Heap) (tk : Nat) (rest : List (Addr × Obj)) (n : Int) (t : Tok), FG P loose mean mg mb A₀ base e₀ L0 g g₁ → ∀ s', SomeSt P l f tf n t g₁ env.locals rest { s with heap := h, toks := tk } s' →
      wpAny (model prog w) A (execs body env) (MyPostG (FG P loose mean mg mb A₀ base e₀ L0 g) (FLed P) (Fps l f tf) FP env.locals rest { s with heap := h, toks := tk } Q) E s' := by
    rintro g₁ h tk rest n t hG₁ _ ⟨x, d, k1, k2, k3, M, t1, c, t2, p, t3, tw, tg, tkk, h', tk', m', rfl, F', N', hdx, hox, hod, q0, q1, q2, q3, q4, q5, q6, a1, a2, a3⟩
    refine turnR x d k1 k2 k3 M t1 c t2 p t3 tw tg tkk n t m' g₁ h' tk' rest hG₁ hdx hox hod a1 a2 a3 ?_ N'
    have e : kstB m' [(Str.ofString "drawn", Value.int n t), (Str.ofString "first", .int f tf), (Str.ofString "numbers", .ref l), (Str.ofString "manager", .ref x), (Str.ofString "window", .int c tw), (Str.ofString "greatest", .int M tg), (Str.ofString "kept", .int p tkk)] = m' := by
      refine kst_all_eq fun q hq => ?_
      simp only [List.mem_cons, List.not_mem_nil, or_false] at hq
      rcases hq with rfl | rfl | rfl | rfl | rfl | rfl | rfl
      · exact q0
      · exact q1
      · exact q2
      · exact q3
      · exact q4
      · exact q5
      · exact q6
    rw [← e] at F'
    exact F'
  refine iter_G (FG P loose mean mg mb A₀ base e₀ L0 g) (FLed P) (Fps l f tf) FP none hh hl hi (fun g' hg' b hb => hg'.turn.none_ b hb) hG F N (fun q _ b hb => nomatch hb) ?_ True.intro ?_ ?_
  · intro q hq
    simp only [Fps, List.mem_cons, List.not_mem_nil, or_false] at hq
    rcases hq with rfl | rfl | rfl
    · exact f1
    · exact f2
    · exact f3
  · intro c n t u g₁ h tk rest hG₁ hP ho F' N'
    refine wpAny_execs_cons ?_
    cases c with
    | none =>
      refine wpAny_mono (turnN n t u g₁ h tk rest hG₁ F' N') (fun fl s' hs => ?_) fun _ _ e => e
      obtain ⟨rfl, hs⟩ := hs
      exact post g₁ h tk rest n t hG₁ s' hs
    | some a =>
      obtain ⟨x, d, k1, k2, k3, M, t1, c, t2, p, t3, tw, tg, tkk⟩ := a
      obtain ⟨b1, b2, b3, b4⟩ := hP
      refine wpAny_mono (turnS x d k1 k2 k3 M t1 c t2 p t3 tw tg tkk n t u g₁ h tk rest hG₁ b1 (fun q hq => ho q hq (x, instObj 110 d) (.head _)) (fun q hq => ho q hq (d, mgr P k1 k2 k3 M t1 c t2 p t3) (.tail _ (.head _))) b2 b3 b4 F' N') (fun fl s' hs => ?_) fun _ _ e => e
      obtain ⟨rfl, hs⟩ := hs
      exact post g₁ h tk rest n t hG₁ s' hs
  · intro c u g₁ h tk hG₁ _ F' N'
    exact done u g₁ h tk hG₁ F' fun p hp => N' p (List.mem_append.mpr (.inr hp))
end
end Mine
end
section
open PySem PySem.W PyProof.Rows PySem.Calls
namespace Mine
theorem ne_lt1 {rest : List (Addr × Obj)} {d : Addr} (h : ∀ p ∈ rest, @LT.lt Nat _ p.1 d) : ∀ q ∈ rest, q.1 ≠ d := fun q hq => Nat.ne_of_lt (h q hq)
theorem ne_lt2 {rest : List (Addr × Obj)} {d x : Addr} (h : ∀ p ∈ rest, @LT.lt Nat _ p.1 d) (h2 : @LT.lt Nat _ d x) : ∀ q ∈ rest, q.1 ≠ x := fun q hq => Nat.ne_of_lt (Nat.lt_trans (h q hq) h2)
theorem fdiv2 (M : Int) (h : 0 ≤ M) : 2 * M.fdiv 2 ≤ M ∧ 0 ≤ M.fdiv 2 := by
  rw [Int.fdiv_eq_ediv_of_nonneg M (by decide)]
  omega
theorem tne {p : Prop} {inst : Decidable p} (h : (true != @decide p inst) = true) (hp : p) : False := by simp [hp] at h
theorem fne {p : Prop} {inst : Decidable p} (h : (false != @decide p inst) = true) (hp : ¬ p) : False := by simp [hp] at h
local macro_rules | `(tactic| walk_at "call ref") => `(tactic| (k_here; (with_reducible show wpAny _ _ (call (Value.ref 128) _) _ _ _); k_dflt (refine' size_cut ?k1 ?k2 ?k3 ?k4 ?k5 ?k6 ?_; (case k3 => k_asm); (case k5 => k_asm); (case k1 => exact rfl); (case k2 => k_asm); (case k4 => k_asm); (case k6 => k_asm); k_whole; intro v' t' h' tk' hv' F' N'; (try k_sweep))))
local macro_rules | `(tactic| walk_at "call ref") => `(tactic| (k_here; (with_reducible show wpAny _ _ (call (Value.ref 100) _) _ _ _); k_dflt (refine' pb_cut (f := Value.ref 100) rfl ?k1 ?k2 ?k3 ?k4 ?k5 ?k6 ?k7 ?k8 ?k9 ?_ ?_ ?_; (case k3 => k_asm); (case k5 => k_asm); (case k1 => exact rfl); (case k2 => k_asm); (case k4 => k_asm); (case k6 => k_asm); (case k7 => k_asm); (case k8 => k_asm); (case k9 => k_asm); (all_goals (intros; first | (exfalso; omega) | ((try k_sweep); (try dsimp only)))))))
local macro_rules | `(tactic| walk_at "call ref") => `(tactic| (k_here; (with_reducible show wpAny _ _ (call (Value.ref 135) _) _ _ _); k_dflt (refine' comes_cut ?k1 ?k2 ?k3 ?k4 ?k5 ?k6 ?k7 ?k8 ?k9 ?ka ?kb ?kc ?kd ?_ ?_; (case k3 => k_asm); (case k5 => k_asm); (case k1 => exact rfl); (case k2 => k_asm); (case k4 => k_asm); (case k6 => k_asm); (case k7 => k_asm); (case k8 => k_asm); (case k9 => k_asm); (case ka => k_asm); (case kb => k_asm); (case kc => k_asm); (case kd => k_asm); (all_goals (intros; first | (exfalso; omega) | ((try k_sweep); (try dsimp only)))))))
local macro_rules | `(tactic| walk_at "call ref") => `(tactic| (k_here; (with_reducible show wpAny _ _ (call (Value.ref 142) _) _ _ _); k_dflt (refine' opens_cut ?k1 ?k2 ?k3 ?k4 ?k5 ?k6 ?k7 ?k8 ?k9 ?ka ?kb ?kc ?kd ?_ ?_; (case k3 => k_asm); (case k5 => k_asm); (case k1 => exact rfl); (case k2 => k_asm); (case k4 => k_asm); (case k6 => k_asm); (case k7 => k_asm); (case k8 => k_asm); (case k9 => k_asm); (case ka => k_asm); (case kb => k_asm); (case kc => k_asm); (case kd => k_asm); (all_goals (intros; first | (exfalso; omega) | ((try k_sweep); (try dsimp only)))))))
local macro_rules | `(tactic| walk_at "ite") => `(tactic| (k_here; k_openite; k_dflt (first
  | (refine ite_pos (by first | omega | ((simp only [beq_iff_eq, bne_iff_ne, ne_eq, Bool.not_eq_true, Bool.not_eq_true', beq_eq_false_iff_ne, bne_eq_false_iff_eq, decide_eq_true_eq, decide_eq_false_iff_not, Bool.and_eq_true, Bool.or_eq_true, Decidable.not_not]); omega)) ?_)
  | (refine ite_neg (by first | omega | ((simp only [beq_iff_eq, bne_iff_ne, ne_eq, Bool.not_eq_true, Bool.not_eq_true', beq_eq_false_iff_ne, bne_eq_false_iff_eq, decide_eq_true_eq, decide_eq_false_iff_not, Bool.and_eq_true, Bool.or_eq_true, Decidable.not_not]); omega)) ?_))))
local macro_rules | `(tactic| walk_at "call builtin:min") => `(tactic| (k_here; (with_reducible show wpAny _ _ (call (Value.builtin _) [Value.int _ _, Value.int _ _]) _ _ _); (with_unfolding_all refine' min2 ?k1 ?k2 ?k3 ?_; (case k1 => with_unfolding_all rfl); (case k2 => k_asm); (case k3 => k_asm)); intro v' t' h' tk' hv1' hv2' hv3' F' N'; (try k_sweep)))
local macro_rules | `(tactic| walk_at "call builtin:max") => `(tactic| (k_here; (with_reducible show wpAny _ _ (call (Value.builtin _) [Value.int _ _, Value.int _ _]) _ _ _); (with_unfolding_all refine' max2 ?k1 ?k2 ?k3 ?_; (case k1 => with_unfolding_all rfl); (case k2 => k_asm); (case k3 => k_asm)); intro v' t' h' tk' hv1' hv2' hv3' F' N'; (try k_sweep)))
local macro_rules | `(tactic| k_all) => `(tactic| assumption)
local macro_rules | `(tactic| walk_at "MyPostG") => `(tactic| (dsimp only [MyPostG]))
local macro_rules | `(tactic| walk_at "MyEndG") => `(tactic| k_dflt (refine' free_end_none ?F ?N ?G ?hr ?f1 ?f2 ?f3; (case F => k_asm); (case N => k_asm); (case f3 => with_unfolding_all rfl); (case G => exact ⟨by assumption, by assumption, by assumption, by assumption, by assumption⟩); (case hr => (intro p hp; k_ownIn)); (case f1 => with_unfolding_all rfl); (case f2 => with_unfolding_all rfl)))
local macro_rules | `(tactic| walk_at "MyEndG") => `(tactic| k_dflt (refine' free_end_some ?F ?N ?G ?hx ?hd ?hr ?hdx ?hox ?hod ?f1 ?f2 ?f3 ?f4 ?f5 ?f6 ?a1 ?a2 ?a3 ?b1 ?b2 ?b3; (case F => k_asm); (case N => k_asm); (case f3 => with_unfolding_all rfl); (case G => exact ⟨by assumption, by assumption, by assumption, by assumption, by assumption⟩); (case hx => k_mem); (case hd => k_mem); (case hr => (intro p hp; k_ownIn)); (case hdx => k_asm); (case hox => k_asm); (case hod => k_asm); (case f1 => with_unfolding_all rfl); (case f2 => with_unfolding_all rfl); (case f4 => with_unfolding_all rfl); (case f5 => with_unfolding_all rfl); (case f6 => with_unfolding_all rfl); (case a1 => omega); (case a2 => omega); (case a3 => omega); (case b1 => omega); (case b2 => omega); (case b3 => omega)))
local macro_rules | `(tactic| walk_at "SomeSt") => `(tactic| k_dflt (refine' someSt ?F ?N ?hx ?hd ?hr ?hdx ?hox ?hod ?f0 ?f1 ?f2 ?f3 ?f4 ?f5 ?f6 ?a1 ?a2 ?a3; (case F => k_asm); (case N => k_asm); (case f3 => with_unfolding_all rfl); (case hx => k_mem); (case hd => k_mem); (case hr => (intro p hp; k_ownIn)); (case hdx => k_asm); (case hox => first | k_asm | exact ne_lt2 (by assumption) (by assumption)); (case hod => first | k_asm | exact ne_lt1 (by assumption)); (case f0 => with_unfolding_all rfl); (case f1 => with_unfolding_all rfl); (case f2 => with_unfolding_all rfl); (case f4 => with_unfolding_all rfl); (case f5 => with_unfolding_all rfl); (case f6 => with_unfolding_all rfl); (case a1 => omega); (case a2 => omega); (case a3 => omega)))
set_option maxRecDepth 100000 in
set_option maxHeartbeats 0 in
theorem free_cut {w : World} {A₀ : Around} {base h₀ : Heap} {L a : Addr} {m : Str → Option Value} {cn : Str} {cs : Scope} {ccd : Value} {news : List (Addr × Obj)} {s : Shared}
    {loose : List Str} {mean : ExcName → Option Value} {mg mb : Str → Option Value} {Q E : Value → Shared → Prop} {l : Addr} {vs : List Value} {ns : List Int} {nn : Nat} {f : Int} {tf : Tok}
    (hck : cs.kind = .function) (B : Below A₀ base [] h₀) (F : Fr h₀ L s.heap m) (X₀ : (hd.heap_39 w.params).In h₀) (N : News h₀ L s.heap news) (T : Top hd.view_39 loose mean mg mb h₀)
    (XB : (hd.heap_39 w.params).In base) (TB : Top hd.view_39 loose mean mg mb base)
    (hl : (l, W.listOf vs.toArray nn) ∈ news) (hi : IntsAre vs ns) (h0 : 0 ≤ f) (h1 : f ≤ 2147483647)
    (h : ∀ h' tk', Fr h₀ L h' m → News h₀ L h' news → Q (.bool true) { s with heap := h', toks := tk' }) :
    wpAny (model PySem.Challenge.rw_ix0029_01.row.prog w) (callerA.deeper (envOf cn cs L a ccd)) (call (.ref 156) [.int f tf, .ref l]) Q E s := by
  w_top off
  (revert X₀; k_fill; intro X₀)
  refine wpAny_call ?_
  refine' code_defS0 (cs := cs) (cn := cn) (a := a) (ccd := ccd) B F X₀ N T ?kA ?k6 ?k7 ?k8 ?k9 ?kB ?_ hck ?c2 ?c3 ?c4 ?c5
  (case kA => exact rfl)
  (case k6 => k_is)
  (case k7 => k_is)
  (case k8 => k_room)
  (case k9 => exact BindsTo.of_eq rfl)
  (case kB => exact locs rfl)
  (case c2 => exact rfl)
  (case c3 => exact rfl)
  (case c4 => exact rfl)
  (case c5 => decide)
  intro g' L' h' FG' F' N' B' X' T' D'
  (try dsimp only)
  (try k_lift B')
  (try k_fold)
  have hG : FG w.params loose mean mg mb (callerA.deeper (envOf cn cs L a ccd)) base (envOf cn cs L a ccd) L g' g' := ⟨KtsTurn.refl, B', X', T', D'⟩
  repeat' ((fail_if_success with_reducible show wpAny _ _ (exec (PySem.Stmt.For _ _ _ _ _) _) _ _ _); first | (k_unfold; (try dsimp only)) | (k_end; wrow_close) | walk1 | (dsimp only; walk1) | (leave1; try dsimp only) | fail "no step")
  refine For_G (Option MS) (by exact rfl) (by exact rfl) ?_
  repeat' ((fail_if_success with_reducible show wpAny _ _ (pyIter (Value.ref _)) _ _ _); first | (k_unfold; (try dsimp only)) | (k_end; wrow_close) | walk1 | (dsimp only; walk1) | (leave1; try dsimp only) | fail "no step")
  (rename News _ _ _ _ => N1)
  (rename Fr _ _ _ _ => F2)
  refine free_iter rfl hl hi hG F2 N1 rfl rfl rfl ?_ ?_ ?_ ?_
  · intro n t u g₁ h3 tk3 rest hG₁ F3 N3
    clear B' X' T' D' hG B X₀ T FG' F N
    obtain ⟨gT, gB, gX, gP, gD⟩ := hG₁
    (try k_fold)
    k_steps
  · intro x d k1 k2 k3 M t1 c t2 p t3 tw tg tkk n t u g₁ h3 tk3 rest hG₁ hdx hox hod a1 a2 a3 F3 N3
    clear B' X' T' D' hG B X₀ T FG' F N
    obtain ⟨gT, gB, gX, gP, gD⟩ := hG₁
    (try k_fold)
    k_steps
  · intro x d k1 k2 k3 M t1 c t2 p t3 tw tg tkk n t u g₁ h3 tk3 rest hG₁ hdx hox hod a1 a2 a3 F3 N3
    clear B' X' T' D' hG B X₀ T FG' F N
    obtain ⟨gT, gB, gX, gP, gD⟩ := hG₁
    have hfd := fdiv2 M (Int.le_trans a1 a2)
    (try k_fold)
    k_steps
    all_goals first | (exfalso; omega) | exact (tne (by assumption) (by omega)).elim | exact (fne (by assumption) (by omega)).elim
  · intro u g₁ h3 tk3 hG₁ F3 N3
    obtain ⟨gT, gB, gX, gP, gD⟩ := hG₁
    k_steps
    exact h _ _ (by assumption) (by assumption)
end Mine
end
section
open PySem PySem.W PyProof.Rows PySem.Calls
namespace Mine
theorem firsts_lo (k : Nat) : 0 ≤ ([65535, 0, 1, 2, 3, 4, 7, 100, 1023, 1024, 1025, 2047, 2048, 4095, 4096, 4097, 5000, 2147483647] : List Int).getD k 0 := by
  rcases Nat.lt_or_ge k 18 with h | h
  · have hh : ∀ k : Fin 18, 0 ≤ ([65535, 0, 1, 2, 3, 4, 7, 100, 1023, 1024, 1025, 2047, 2048, 4095, 4096, 4097, 5000, 2147483647] : List Int).getD k.val 0 := by decide
    exact hh ⟨k, h⟩
  · rw [List.getD_eq_getElem?_getD, List.getElem?_eq_none (by simpa using h)]
    decide
theorem firsts_hi (k : Nat) : ([65535, 0, 1, 2, 3, 4, 7, 100, 1023, 1024, 1025, 2047, 2048, 4095, 4096, 4097, 5000, 2147483647] : List Int).getD k 0 ≤ 2147483647 := by
  rcases Nat.lt_or_ge k 18 with h | h
  · have hh : ∀ k : Fin 18, ([65535, 0, 1, 2, 3, 4, 7, 100, 1023, 1024, 1025, 2047, 2048, 4095, 4096, 4097, 5000, 2147483647] : List Int).getD k.val 0 ≤ 2147483647 := by decide
    exact hh ⟨k, h⟩
  · rw [List.getD_eq_getElem?_getD, List.getElem?_eq_none (by simpa using h)]
    decide
theorem fm_lo (a : Int) : 0 ≤ a.fmod (2147483647 + 1) := Int.fmod_nonneg_of_pos a (by decide)
theorem fm_hi (a : Int) : a.fmod (2147483647 + 1) ≤ 2147483647 := by
  have h := Int.fmod_lt_of_pos a (b := 2147483647 + 1) (by decide)
  omega
section
variable {prog : Program} {w : World} {A : Around} {E : Value → Shared → Prop} {s : Shared}
theorem mod_abs {a : Int} {t u : Tok} {Q : Value → Shared → Prop} (h : ∀ v, 0 ≤ v → v ≤ 2147483647 → Q (.int v s.toks) { s with toks := s.toks + 1 }) :
    wpAny (model prog w) A (binaryOp .Mod (.int a t) (.int (2147483647 + 1) u)) Q E s := mod_int' (by decide) (h _ (fm_lo a) (fm_hi a))
end
local macro_rules | `(tactic| walk_at "binaryOp Mod int int") => `(tactic| (k_here; (with_reducible show wpAny _ _ (binaryOp _ _ (Value.int (2147483647 + 1) _)) _ _ _); k_dflt (refine mod_abs ?_; intro v' hv1' hv2')))
local macro_rules | `(tactic| walk_at "execs cons If cons") => `(tactic| (k_here; k_dflt ((try dsimp only); (with_reducible refine wpAny_execs_cons ?_))))
local macro_rules | `(tactic| walk_at "execs cons Return nil") => `(tactic| (k_here; k_dflt ((try dsimp only); (with_reducible refine wpAny_execs_cons ?_))))
local macro_rules | `(tactic| walk_at "execs nil") => `(tactic| (k_here; k_dflt ((try dsimp only); (with_reducible refine wpAny_execs_nil ?_))))
local macro_rules | `(tactic| walk_at "execs cons Assign cons") => `(tactic| (k_here; k_dflt ((try dsimp only); (with_reducible refine wpAny_execs_cons ?_))))
local macro_rules | `(tactic| walk_at "call ref") => `(tactic| (k_here; (with_reducible show wpAny _ _ (call (Value.ref 149) _) _ _ _); k_dflt (refine' plain_cut ?k1 ?k2 ?k3 ?k4 ?k5 ?k6 ?k7 ?k8 ?k9 ?ka ?_; (case k3 => k_asm); (case k5 => k_asm); (case k1 => exact rfl); (case k2 => k_asm); (case k4 => k_asm); (case k6 => k_asm); (case k7 => k_mem); (case k8 => first | k_asm | (repeat constructor)); (case k9 => first | exact firsts_lo _ | k_asm | decide); (case ka => first | exact firsts_hi _ | k_asm | decide); k_whole; intro h' tk' F' N'; (try k_sweep); (try dsimp only))))
local macro_rules | `(tactic| walk_at "call ref") => `(tactic| (k_here; (with_reducible show wpAny _ _ (call (Value.ref 156) _) _ _ _); k_dflt (refine' free_cut ?k1 ?k2 ?k3 ?k4 ?k5 ?k6 ?kx ?kt ?k7 ?k8 ?k9 ?ka ?_; (case k3 => k_asm); (case k5 => k_asm); (case k1 => exact rfl); (case k2 => k_asm); (case k4 => k_asm); (case k6 => k_asm); (case kx => k_asm); (case kt => k_asm); (case k7 => k_mem); (case k8 => first | k_asm | (repeat constructor)); (case k9 => first | exact firsts_lo _ | k_asm | decide); (case ka => first | exact firsts_hi _ | k_asm | decide); k_whole; intro h' tk' F' N'; (try k_sweep); (try dsimp only))))
set_option maxRecDepth 100000 in
set_option maxHeartbeats 0 in
theorem law_holds : PySem.Challenge.rw_ix0029_01.Holds := hd (by k_go)
end Mine
end
open PySem PySem.W PyProof.Rows
theorem PySem.Challenge.cw_ix0029_01_holds : PySem.Challenge.rw_ix0029_01.Holds := by
  exact Mine.law_holds
