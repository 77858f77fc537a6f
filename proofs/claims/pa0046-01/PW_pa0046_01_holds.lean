import PyProof.Rows.All
import Wide.All
import OpenK.AllK
import Wide.FinOn
import PySem.Challenge.RW_pa0046_01
import PyProof.TypeOfCall
open PySem PySem.W PyProof.Rows PySem.Spec PySem.Calls
set_option Elab.async false
set_option maxRecDepth 100000
set_option rowWalk.seconds 0
namespace Mine
set_option maxHeartbeats 8000000
def dum (_ : OpenRow) : Prop := True
theorem cond (r : OpenRow) (_ : r.Holds) : dum r = True := rfl
theorem pre : dum (PySem.Challenge.rw_pa0046_01).row ∨ True := by
  simp (disch := (k_head; fail)) only [cond, or_true]
set_option maxHeartbeats 8000000

noncomputable abbrev LS : List Str :=
  looseW Mine.pre.view_1 [Str.ofString "bytes_types", Str.ofString "a2b_base64", Str.ofString "b2a_base64", Str.ofString "b64encode", Str.ofString "b64decode", Str.ofString "_initial_missing", Str.ofString "reduce"] ++
        List.map (fun x => x.name) (recsOf Mine.pre.view_1) ++
      List.map (fun x => x.fst) (litsOf Mine.pre.view_1) ++
    List.map (fun x => x.name) (clssOf Mine.pre.view_1 (looseW Mine.pre.view_1 [Str.ofString "bytes_types", Str.ofString "a2b_base64", Str.ofString "b2a_base64", Str.ofString "b64encode", Str.ofString "b64decode", Str.ofString "_initial_missing", Str.ofString "reduce"]))

def Keeps (h h' : Heap) : Prop := ∀ b o, h.get? b = some o → h'.get? b = some o
abbrev Ar (dp un : Nat) (gd : Option (List Code)) (fr : Option (List Env)) : Around := { handled := none, depth := dp, frames := fr, guards := gd, units := un }

theorem enter {prog : Program} {w : World} {A : Around} {s : Shared} {K : Frag} {p : Program} {loose : List Str} {mean : ExcName → Option Value} {mg mb : Str → Option Value}
    {Q E : Value → Shared → Prop} {name qual : Str} {params : Arguments} {body : List Stmt} {scope : Scope} {dV kV doc pm cdv ct oc : Value} {an od : Option Addr} {osl : Array (Option Value)} {f : Addr} {vs : List Value} {kw : List (Str × Value)} {binds : List (Str × Value)}
    (X : K.In s.heap) (T : Top p loose mean mg mb s.heap)
    (ho : K.lookup f = some ⟨oc, od, .func (fnOf name qual params body scope dV kV doc pm an cdv ct), osl⟩) (hcd : codeIn K cdv qual = true) (hroom : A.depth < recursionLimit)
    (hbind : BindsTo s (fnOf name qual params body scope dV kV doc pm an cdv ct) ⟨vs, kw⟩ binds) (hloc : ∀ y ∈ binds, scope.names.lookup y.1 = some .local)
    (h : ∀ L' h₁, Fr s.heap L' h₁ (fun y => binds.reverse.lookup y) → News s.heap L' h₁ [] →
      wpAny (model prog w) (A.deeper (envOf qual scope L' f cdv)) (execs body (envOf qual scope L' f cdv))
        (fun fl s' => Q (match fl with | .ret v => v | _ => .none) s')
        (fun e s' => wpAny (model prog w) (A.deeper (envOf qual scope L' f cdv)) (leaving (envOf qual scope L' f cdv) e) (fun _ s'' => E e s'') (fun e' s'' => E e' s'') s')
        { s with heap := h₁, toks := s.toks + binds.length })
    (hco : scope.isCoroutine = false) (hgen : scope.isGenerator = false) (hk : scope.kind = .function)
    (hcell : ∀ x ∈ scope.names, x.2 ≠ .cell) : wpAny (model prog w) A (call (.ref f) vs kw) Q E s := by
  refine wpAny_call ?_
  refine codeAny_call_def (fd := fnOf name qual params body scope dV kV doc pm an cdv ct) (body := body) (binds := binds) hroom (X _ _ ho) rfl T.nolimit (codeRec_of X hcd) rfl hbind hcell hloc (fun h₁ hns hk₁ => ?_) hco hgen hk
  exact h _ h₁ ⟨hns, hk₁, Nat.le_refl _⟩ News.nil
theorem anew_Base2 : True := by
  w_top off
  k_with_none
  trivial
set_option maxHeartbeats 8000000
local macro_rules | `(tactic| walk_at "m_enter") => `(tactic| (
  k_dflt (refine' enter ?k1 ?k2 ?k3 ?k4 ?k5 ?k6 ?k7 ?_ ?c1 ?c2 ?c3 ?c4; (case k1 => assumption); (case k2 => assumption); (case k3 => k_is); (case k4 => k_is); (case k5 => ktr_room); (case k6 => first | exact BindsTo.of_eq rfl | exact binds_K (by k_in) rfl (by k_is) rfl rfl rfl | exact kp_binds (by k_in) (fun _ => by rfl)); (case k7 => exact locs rfl); (case c1 => exact rfl); (case c2 => exact rfl); (case c3 => exact rfl); (case c4 => decide)); k_whole; intro L' h' F' N'; (try dsimp only); (try k_fold)))
local macro_rules | `(tactic| walk_at "m_steps") => `(tactic| (k_steps; all_goals (try dsimp only); all_goals (try (k_unfold; try dsimp only))))
local macro_rules | `(tactic| walk_at "call type:type") => `(tactic| (k_here; (with_reducible show wpAny _ _ (call (Value.type "type") [Value.bytes _ _]) _ _ _); refine call_type_of (Tx := "bytes") rfl (by decide +kernel) ?_))
local macro_rules | `(tactic| walk_at "call type:type") => `(tactic| (k_here; (with_reducible show wpAny _ _ (call (Value.type "type") [Value.bool _]) _ _ _); refine call_type_of (Tx := "bool") rfl (by decide +kernel) ?_))

theorem ret_int {h h' : Heap} {L : Addr} {m : Str → Option Value} {s : Shared} {Q : Value → Shared → Prop} {t : Tok} {tk' : Nat} {x y : Int} (hret : ∀ (t : Tok) (h' : Heap) (tk' : Nat), Keeps h h' → Q (.int x t) { s with heap := h', toks := tk' }) (e : x = y) (F : Fr h L h' m) : Q (.int y t) { s with heap := h', toks := tk' } := by
  subst e
  exact hret t h' tk' F.keep
def LETTERS : Str := Str.ofString "ABCDEFGHIJKLMNOPQRSTUVWXYZabcdefghijklmnopqrstuvwxyz0123456789+/"
def IsLet (x : Str) : Prop := x = LETTERS
def POOL : Str := Str.ofString "+/-_AB"

theorem back {h₀ h h' : Heap} {L : Addr} {m : Str → Option Value} {news : List (Addr × Obj)} (F : Fr h₀ L h m) (N : News h₀ L h news) (k : Keeps h h') : Fr h₀ L h' m ∧ News h₀ L h' news := by
  obtain ⟨oL, es, ep, hL, r⟩ := F.ns
  exact ⟨⟨⟨oL, es, ep, k _ _ hL, r⟩, fun b o e => k _ _ (F.keep b o e), F.above⟩, fun p hp => ⟨k _ _ (N p hp).1, (N p hp).2⟩⟩

abbrev adr1 {h₀ h : Heap} {L a : Addr} {o : Obj} {r : List (Addr × Obj)} (_ : News h₀ L h ((a, o) :: r)) : Addr := a

local macro_rules | `(tactic| size_fits) => `(tactic| ((try simp only [List.size_toArray, Array.size_push, List.length_append, List.length_cons, List.length_nil, PySem.sizeLine_eq]); omega))

abbrev letOf {x : Str} (_ : IsLet x) : Str := x
theorem snoc_map {α β : Type} {f : α → β} {ns : List β} {pre : List α} {n : α} {x : β} (h : ns = pre.map f) (e : x = f n) : ns ++ [x] = (pre ++ [n]).map f := by
  rw [h, e, List.map_append]; rfl

theorem back1 {h₀ h h' : Heap} {L r : Addr} {o : Obj} {m : Str → Option Value} {news : List (Addr × Obj)} (F : Fr h₀ L h m) (N : News h₀ L h news) (k : Keeps h h') (hf : h.get? r = none) (hr : h'.get? r = some o) :
    Fr h₀ L h' m ∧ News h₀ L h' ((r, o) :: news) ∧ (∀ p ∈ news, p.1 ≠ r) := by
  obtain ⟨F', N'⟩ := back F N k
  refine ⟨F', fun p hp => ?_, fun p hp e => ?_⟩
  · rcases List.mem_cons.mp hp with rfl | hp
    · refine ⟨hr, fun e => ?_, ?_⟩
      · obtain ⟨oL, _, _, hL, _⟩ := F.ns
        have e' : r = L := e
        rw [e', hL] at hf; cases hf
      · show h₀.get? r = none
        cases q : h₀.get? r with
        | none => rfl
        | some o' => rw [F.keep _ _ q] at hf; cases hf
    · exact N' p hp
  · rw [← e, (N p hp).1] at hf; cases hf
theorem back2 {h₀ h h' : Heap} {L r : Addr} {vs : List Value} {k₀ : Nat} {m : Str → Option Value} {news : List (Addr × Obj)} (F : Fr h₀ L h m) (N : News h₀ L h news) (k : Keeps h h') (hr : h'.get? r = some (W.listOf vs.toArray k₀)) (hf : h.get? r = none) :
    Fr h₀ L h' m ∧ News h₀ L h' ((r, W.listOf vs.toArray k₀) :: news) ∧ (∀ p ∈ news, p.1 ≠ r) := back1 F N k hf hr

local macro_rules | `(tactic| walk_at "m_to") => `(tactic| repeat ((fail_if_success (with_reducible show wpAny _ _ (pyIter _) _ _ _)); first | walk1 | (dsimp only; walk1)))
local macro_rules | `(tactic| walk_at "exec For Name Name cons nil") => `(tactic| (k_here; (rename Fr _ _ _ _ => lF'); (with_unfolding_all refine' For_invVF lF' ?k1 ?k2 ?_; (case k1 => exact rfl); (case k2 => exact rfl); k_whole)))
local macro_rules | `(tactic| walk_at "exec For Name BinOp cons nil") => `(tactic| (k_here; (rename Fr _ _ _ _ => lF'); (with_unfolding_all refine' For_invVF lF' ?k1 ?k2 ?_; (case k1 => exact rfl); (case k2 => exact rfl); k_whole)))
local macro_rules | `(tactic| walk_at "exec For Name Call cons nil") => `(tactic| (k_here; (rename Fr _ _ _ _ => lF'); (with_unfolding_all refine' For_invVF lF' ?k1 ?k2 ?_; (case k1 => exact rfl); (case k2 => exact rfl); k_whole)))

local macro_rules | `(tactic| walk_at "m_turn") => `(tactic| repeat' ((fail_if_success (with_reducible show InvEndN _ _ _ _ _ _ _)); first | (k_unfold; (try dsimp only)) | walk1 | (dsimp only; walk1)))
theorem fill : PySem.Challenge.rw_pa0046_01.row.prog = PySem.Challenge.rw_pa0046_01.row.prog ∧ Mine.pre.heap_1 = Mine.pre.heap_1 := by
  k_fill
  exact ⟨rfl, rfl⟩
theorem anew_Loops : True := by
  w_top off
  k_with_none
  trivial
set_option maxHeartbeats 1000000
def rkS (a c : Int) (n : Nat) : List Int := (List.range n).map fun (j : Nat) => a + (j : Int) * c
theorem rkS_length (a c : Int) (n : Nat) : (rkS a c n).length = n := by simp [rkS]
theorem rkS_take {a c : Int} {n i : Nat} (h : i < n) : (rkS a c n).take (i + 1) = (rkS a c n).take i ++ [a + (i : Int) * c] := by
  have hk : (rkS a c n)[i]? = some (a + (i : Int) * c) := by simp [rkS, h]
  simp [List.take_add_one, hk]
section
variable {prog : Program} {w : World} {A : Around} {E : Value → Shared → Prop} {s : Shared} {env : Env} {h₀ : Heap} {x : Str} {body : List Stmt} {Q : Flow → Shared → Prop}
/-- a range by any step, its turns counted: what holds behind i turns -/
theorem rng_loop {σ : Type} {r : Addr} {a b c : Int} {t₀ u₀ v₀ : Tok} {n : Nat} {m₀ : Str → Option Value} (Led : σ → List (Addr × Obj)) (ps : σ → List (Str × Value)) (Facts : σ → Prop) (stored : List Str) (P : Nat → σ → Prop) (c₀ : σ)
    (hh : A.handled = none) (hr : IsRange s.heap r a b c t₀ u₀ v₀) (hsmall : Builtin.Range.small a b c = true) (hn : Builtin.Range.rangeSize a b c = (n : Int)) (F : Fr h₀ env.locals s.heap m₀) (N : News h₀ env.locals s.heap (Led c₀)) (hf : Facts c₀) (hk : ∀ p ∈ ps c₀, m₀ p.1 = some p.2) (hp : P 0 c₀)
    (turn : ∀ (d : σ) (i : Nat) t (u : Str → Option Value) h tk own, i < n → OwnOff own ((Led c₀).map (·.1)) → Facts d → P i d →
      Fr h₀ env.locals h (fun y => if y = x then some (.int (a + (i : Int) * c) t) else kstB (fun z => if stored.contains z then u z else m₀ z) (ps d) y) → News h₀ env.locals h (Led d ++ own) →
      wpAny (model prog w) A (execs body env) (InvPostN h₀ env.locals (KstS Led ps Facts x stored m₀ (fun l d => P l.length d) (rkS a c (i + 1))) own ((Led c₀).map (·.1)) { s with heap := h, toks := tk } Q) E { s with heap := h, toks := tk })
    (done : ∀ (d : σ) (u : Str → Option Value) h tk, Facts d → P n d → Fr h₀ env.locals h (fun y => if y = x then u y else kstB (fun z => if stored.contains z then u z else m₀ z) (ps d) y) → News h₀ env.locals h (Led d) → Q .next { s with heap := h, toks := tk }) :
    wpAny (model prog w) A (pyIter (.ref r)) (fun it s₂ => LoopAtV prog w A h₀ env x body Q E it s₂) E s := by
  refine wpAny_pyIter_range hr hsmall ?_
  have W := (Walks.range (prog := prog) (w := w) hh s.heap.objs.size a c n).bound
  have hnew : s.heap.objs.size ∉ (Led c₀).map (·.1) := fun hm => by
    obtain ⟨p, hp', e⟩ := List.mem_map.mp hm
    exact absurd (Heap.lt_size (N p hp').1) (e ▸ Nat.lt_irrefl _)
  refine loop_invN (fun i m nx => KstS Led ps Facts x stored m₀ (fun l d => P l.length d) (rkS a c i) m nx) W ?_ ?_ ?_ ?_ (by show IsRangeIter _ _ _ _ _; rw [hn]; simpa using Heap.get?_push_size _ rfl) (F.push _) (fun p hp => ⟨Heap.get?_push_of_some _ (N p hp).1, (N p hp).2⟩) ⟨c₀, rfl, hf, hk, fun _ _ _ _ => rfl, by simpa [rkS] using hp⟩ ?_ ?_
  · intro hm
    exact absurd F.ns.lt ((List.mem_singleton.mp hm) ▸ Nat.lt_irrefl _)
  · intro b' hb'
    rw [List.mem_singleton.mp hb']
    exact next_is_new F
  · exact fun p hp' hI => hnew (List.mem_map.mpr ⟨p, hp', List.mem_singleton.mp hI⟩)
  · exact fun p hp' hI => hnew (List.mem_map.mpr ⟨p, hp', List.mem_singleton.mp hI⟩)
  · rintro i v m₁ nx h tk own hi ⟨_, t, rfl⟩ _ hoff ⟨d, rfl, hf', h1, h2, hp'⟩ F₁ N₁
    rw [rkS_length] at hp'
    exact turn d i t m₁ h tk own hi hoff hf' hp' (kst_fr h1 h2 F₁) N₁
  · rintro m₁ nx h tk ⟨d, rfl, hf', h1, h2, hp'⟩ F₁ N₁
    rw [rkS_length] at hp'
    exact done d m₁ h tk hf' hp' (kst_frOut h1 h2 F₁) N₁
/-- the end of a turn that has filled one list of ints -/
theorem kend1 {stored : List Str} {m₀ : Str → Option Value} {P : List Int → List Value × List Int × Nat → Prop} {pre : List Int} {l L : Addr} {m' : Str → Option Value} {own : List (Addr × Obj)} {s₁ : Shared} {h' : Heap} {tk k : Nat} {us : List Value} {ms : List Int}
    (F : Fr h₀ L h' m') (N : News h₀ L h' ((l, W.listOf us.toArray k) :: own)) (hi : IntsAre us ms) (hr : ∀ z, z ≠ x → (∀ p ∈ ([] : List (Str × Value)), z ≠ p.1) → stored.contains z = false → m' z = m₀ z) (hp : P pre (us, ms, k)) :
    InvEndN h₀ L (KstS (fun c : List Value × List Int × Nat => [(l, W.listOf c.1.toArray c.2.2)]) (fun _ => []) (fun c => IntsAre c.1 c.2.1) x stored m₀ P pre) own [l] s₁ { s₁ with heap := h', toks := tk } :=
  kst_end (us, ms, k) F N (List.forall_mem_cons.mpr ⟨List.Mem.head _, List.forall_mem_nil _⟩) (fun _ hp => List.Mem.tail _ hp) rfl hi (List.forall_mem_nil _) hr hp
/-- the same with two ints of the frame -/
theorem kendB {stored : List Str} {m₀ : Str → Option Value} {x1 x2 : Str} {P : List Int → List Value × List Int × Nat × Int × Tok × Int × Tok → Prop} {pre : List Int} {l L : Addr} {m' : Str → Option Value} {own : List (Addr × Obj)} {s₁ : Shared} {h' : Heap} {tk k : Nat} {us : List Value} {ms : List Int} {i1 i2 : Int} {t1 t2 : Tok}
    (F : Fr h₀ L h' m') (N : News h₀ L h' ((l, W.listOf us.toArray k) :: own)) (hi : IntsAre us ms) (h1 : m' x1 = some (.int i1 t1)) (h2 : m' x2 = some (.int i2 t2)) (hr : ∀ z, z ≠ x → (∀ p ∈ [(x1, Value.int i1 t1), (x2, Value.int i2 t2)], z ≠ p.1) → stored.contains z = false → m' z = m₀ z) (hp : P pre (us, ms, k, i1, t1, i2, t2)) :
    InvEndN h₀ L (KstS (fun c : List Value × List Int × Nat × Int × Tok × Int × Tok => [(l, W.listOf c.1.toArray c.2.2.1)]) (fun c => [(x1, .int c.2.2.2.1 c.2.2.2.2.1), (x2, .int c.2.2.2.2.2.1 c.2.2.2.2.2.2)]) (fun c => IntsAre c.1 c.2.1) x stored m₀ P pre) own [l] s₁ { s₁ with heap := h', toks := tk } :=
  kst_end (us, ms, k, i1, t1, i2, t2) F N (List.forall_mem_cons.mpr ⟨List.Mem.head _, List.forall_mem_nil _⟩) (fun _ hp => List.Mem.tail _ hp) rfl hi (List.forall_mem_cons.mpr ⟨h1, List.forall_mem_cons.mpr ⟨h2, List.forall_mem_nil _⟩⟩) hr hp
/-- the same with four ints of the frame -/
theorem kendD {stored : List Str} {m₀ : Str → Option Value} {x1 x2 x3 x4 : Str} {P : List Int → List Value × List Int × Nat × Int × Tok × Int × Tok × Int × Tok × Int × Tok → Prop} {pre : List Int} {l L : Addr} {m' : Str → Option Value} {own : List (Addr × Obj)} {s₁ : Shared} {h' : Heap} {tk k : Nat} {us : List Value} {ms : List Int} {i1 i2 i3 i4 : Int} {t1 t2 t3 t4 : Tok}
    (F : Fr h₀ L h' m') (N : News h₀ L h' ((l, W.listOf us.toArray k) :: own)) (hi : IntsAre us ms) (h1 : m' x1 = some (.int i1 t1)) (h2 : m' x2 = some (.int i2 t2)) (h3 : m' x3 = some (.int i3 t3)) (h4 : m' x4 = some (.int i4 t4)) (hr : ∀ z, z ≠ x → (∀ p ∈ [(x1, Value.int i1 t1), (x2, Value.int i2 t2), (x3, Value.int i3 t3), (x4, Value.int i4 t4)], z ≠ p.1) → stored.contains z = false → m' z = m₀ z) (hp : P pre (us, ms, k, i1, t1, i2, t2, i3, t3, i4, t4)) :
    InvEndN h₀ L (KstS (fun c : List Value × List Int × Nat × Int × Tok × Int × Tok × Int × Tok × Int × Tok => [(l, W.listOf c.1.toArray c.2.2.1)]) (fun c => [(x1, .int c.2.2.2.1 c.2.2.2.2.1), (x2, .int c.2.2.2.2.2.1 c.2.2.2.2.2.2.1), (x3, .int c.2.2.2.2.2.2.2.1 c.2.2.2.2.2.2.2.2.1), (x4, .int c.2.2.2.2.2.2.2.2.2.1 c.2.2.2.2.2.2.2.2.2.2)]) (fun c => IntsAre c.1 c.2.1) x stored m₀ P pre) own [l] s₁ { s₁ with heap := h', toks := tk } :=
  kst_end (us, ms, k, i1, t1, i2, t2, i3, t3, i4, t4) F N (List.forall_mem_cons.mpr ⟨List.Mem.head _, List.forall_mem_nil _⟩) (fun _ hp => List.Mem.tail _ hp) rfl hi (List.forall_mem_cons.mpr ⟨h1, List.forall_mem_cons.mpr ⟨h2, List.forall_mem_cons.mpr ⟨h3, List.forall_mem_cons.mpr ⟨h4, List.forall_mem_nil _⟩⟩⟩⟩) hr hp
end
theorem anew_F1 : True := by
  w_top off
  k_with_none
  trivial
set_option maxHeartbeats 8000000
def b64v (c : Int) : Int := if 65 ≤ c ∧ c ≤ 90 then c - 65 else if 97 ≤ c ∧ c ≤ 122 then c - 71 else if 48 ≤ c ∧ c ≤ 57 then c + 4 else if c = 43 then 62 else if c = 47 then 63 else 64

theorem fill1 : PySem.Challenge.rw_pa0046_01.row.prog = PySem.Challenge.rw_pa0046_01.row.prog ∧ Mine.pre.heap_1 = Mine.pre.heap_1 := by
  k_fill
  exact ⟨rfl, rfl⟩

section
variable {w : World} {mean : ExcName → Option Value} {mg mb : Str → Option Value} {dp un : Nat} {gd : Option (List Code)} {fr : Option (List Env)} {s : Shared} {Q E : Value → Shared → Prop}

theorem b64_value_c {c : Int} {tc : Tok} (X : (pre.heap_1 w.params).In s.heap) (T : Top topProg LS mean mg mb s.heap) (hdp : dp + 1 < recursionLimit) (hun : un + 8 < cLine)
   (hret : ∀ t h' tk', Keeps s.heap h' → Q (.int (b64v c) t) { s with heap := h', toks := tk' }) :
   wpAny (model PySem.Challenge.rw_pa0046_01.row.prog w) (Ar dp un gd fr) (call (.ref 70) [Value.int c tc]) Q E s := by
  walk_at "m_enter"
  walk_at "m_steps"
  all_goals (refine ret_int hret ?_ (by assumption); unfold b64v; (repeat' split) <;> omega)

theorem ascii_buffer_c {b : Array UInt8} {tc : Tok} (X : (pre.heap_1 w.params).In s.heap) (T : Top topProg LS mean mg mb s.heap) (hdp : dp + 1 < recursionLimit) (hun : un + 8 < cLine)
   (hret : ∀ t h' tk', Keeps s.heap h' → Q (.bytes b t) { s with heap := h', toks := tk' }) :
   wpAny (model PySem.Challenge.rw_pa0046_01.row.prog w) (Ar dp un gd fr) (call (.ref 49) [Value.bytes b tc]) Q E s := by
  walk_at "m_enter"
  walk_at "m_steps"
  exact hret _ _ _ (Fr.keep (by assumption))

theorem buffer_c {b : Array UInt8} {tc : Tok} (X : (pre.heap_1 w.params).In s.heap) (T : Top topProg LS mean mg mb s.heap) (hdp : dp + 1 < recursionLimit) (hun : un + 8 < cLine)
   (hret : ∀ t h' tk', Keeps s.heap h' → Q (.bytes b t) { s with heap := h', toks := tk' }) :
   wpAny (model PySem.Challenge.rw_pa0046_01.row.prog w) (Ar dp un gd fr) (call (.ref 56) [Value.bytes b tc]) Q E s := by
  walk_at "m_enter"
  walk_at "m_steps"
  exact hret _ _ _ (Fr.keep (by assumption))

theorem truth_c {b : Bool} (X : (pre.heap_1 w.params).In s.heap) (T : Top topProg LS mean mg mb s.heap) (hdp : dp + 1 < recursionLimit) (hun : un + 8 < cLine)
   (hret : ∀ h' tk', Keeps s.heap h' → Q (.bool b) { s with heap := h', toks := tk' }) :
   wpAny (model PySem.Challenge.rw_pa0046_01.row.prog w) (Ar dp un gd fr) (call (.ref 63) [Value.bool b]) Q E s := by
  cases b
  all_goals
    walk_at "m_enter"
    walk_at "m_steps"
    exact hret _ _ (Fr.keep (by assumption))

theorem bfdd_c {b : Array UInt8} {tc : Tok} (X : (pre.heap_1 w.params).In s.heap) (T : Top topProg LS mean mg mb s.heap) (hdp : dp + 1 < recursionLimit) (hun : un + 8 < cLine)
   (hret : ∀ t h' tk', Keeps s.heap h' → Q (.bytes b t) { s with heap := h', toks := tk' }) :
   wpAny (model PySem.Challenge.rw_pa0046_01.row.prog w) (Ar dp un gd fr) (call (.ref 29) [Value.bytes b tc]) Q E s := by
  walk_at "m_enter"
  walk_at "m_steps"
  exact hret _ _ _ (Fr.keep (by assumption))

theorem letters_c (X : (pre.heap_1 w.params).In s.heap) (T : Top topProg LS mean mg mb s.heap) (hdp : dp + 1 < recursionLimit) (hun : un + 8 < cLine)
   (hret : ∀ x t h' tk', IsLet x → x.length = 64 → Keeps s.heap h' → Q (.str x t) { s with heap := h', toks := tk' }) :
   wpAny (model PySem.Challenge.rw_pa0046_01.row.prog w) (Ar dp un gd fr) (call (.ref 125) []) Q E s := by
  walk_at "m_enter"
  walk_at "m_steps"
  exact hret _ _ _ _ rfl (by decide +kernel) (Fr.keep (by assumption))
end
theorem anew_F2 : True := by
  w_top off
  k_with_none
  trivial
set_option maxHeartbeats 1000000
theorem fill2 : PySem.Challenge.rw_pa0046_01.row.prog = PySem.Challenge.rw_pa0046_01.row.prog ∧ Mine.pre.heap_1 = Mine.pre.heap_1 := by
  k_fill
  exact ⟨rfl, rfl⟩
def stW (n : Int) : Str := Txt.item (Str.ofString "+/-_AB") (n.fmod 6) ++ Txt.item (Str.ofString "+/-_AB") ((n.fdiv 6).fmod 6)
def stR (n : Int) : Str := Txt.item (Str.ofString "+/-_AB") ((n.fdiv 36).fmod 6) ++ Txt.item (Str.ofString "+/-_AB") (((n.fdiv 36).fmod 6 + 1 + (n.fdiv 216).fmod 5).fmod 6)
section
variable {w : World} {mean : ExcName → Option Value} {mg mb : Str → Option Value} {dp un : Nat} {gd : Option (List Code)} {fr : Option (List Env)} {s : Shared} {Q E : Value → Shared → Prop}
theorem station_c {n : Int} {tn : Tok} (X : (pre.heap_1 w.params).In s.heap) (T : Top topProg LS mean mg mb s.heap) (hdp : dp + 1 < recursionLimit) (hun : un + 8 < cLine)
   (hret : ∀ r o t1 t2 h' tk', Keeps s.heap h' → s.heap.get? r = none → h'.get? r = some o → IsTup h' r #[.str (stW n) t1, .str (stR n) t2] → Q (.ref r) { s with heap := h', toks := tk' }) :
   wpAny (model PySem.Challenge.rw_pa0046_01.row.prog w) (Ar dp un gd fr) (call (.ref 132) [Value.int n tn]) Q E s := by
  walk_at "m_enter"
  walk_at "m_steps"
  rename News _ _ _ _ => N
  rename Fr _ _ _ _ => F
  exact hret _ _ _ _ _ _ F.keep (N _ (.head _)).2.2 (N _ (.head _)).1 (News.isTup N (.head _))
end
theorem anew_F4 : True := by
  w_top off
  k_with_none
  trivial
set_option maxHeartbeats 1000000
theorem fill4 : PySem.Challenge.rw_pa0046_01.row.prog = PySem.Challenge.rw_pa0046_01.row.prog ∧ Mine.pre.heap_1 = Mine.pre.heap_1 := by
  k_fill
  exact ⟨rfl, rfl⟩
def joinF (second : List Int) (f : Int) : Int := if f < 0 then -1 else second.getD f.toNat 0
section
variable {w : World} {mean : ExcName → Option Value} {mg mb : Str → Option Value} {dp un : Nat} {gd : Option (List Code)} {fr : Option (List Env)} {s : Shared} {Q E : Value → Shared → Prop}
theorem joined_c {a b : Addr} {vs us : List Value} {first second : List Int} (X : (pre.heap_1 w.params).In s.heap) (T : Top topProg LS mean mg mb s.heap) (hdp : dp + 1 < recursionLimit) (hun : un + 8 < cLine)
   (ha : s.heap.IsList a vs.toArray) (hv : IntsAre vs first) (hb : s.heap.IsList b us.toArray) (hu : IntsAre us second) (hl : first.length = 64) (hl2 : second.length = 64)
   (hin : ∀ f ∈ first, f < 64)
   (hret : ∀ r vs k h' tk', Keeps s.heap h' → s.heap.get? r = none → h'.get? r = some (W.listOf vs.toArray k) → IntsAre vs (first.map (joinF second)) → Q (.ref r) { s with heap := h', toks := tk' }) :
   wpAny (model PySem.Challenge.rw_pa0046_01.row.prog w) (Ar dp un gd fr) (call (.ref 146) [Value.ref a, Value.ref b]) Q E s := by
  walk_at "m_enter"
  walk_at "m_to"
  rename News _ _ _ _ => N9
  rename Fr _ _ _ _ => F9
  obtain ⟨l9, hl9⟩ : ∃ l, l = adr1 N9 := ⟨_, rfl⟩
  dsimp only [adr1] at hl9
  subst hl9
  refine kst_list (fun c : List Value × List Int × Nat => [(l9, W.listOf c.1.toArray c.2.2)]) (fun _ => []) (fun c => IntsAre c.1 c.2.1) [] (fun pre c => c.2.1 = pre.map (joinF second)) ([], [], 0) rfl ha hv F9 N9 .nil (List.forall_mem_nil _) rfl ?turn ?done
  all_goals clear F9 N9
  case turn =>
    rintro ⟨vs', ns, k⟩ pre post n t u h tk own hEq hm hOff hFacts hInv F N
    dsimp only [kstB] at F N hOff hFacts hInv
    simp only [List.nil_append, List.cons_append, List.append_nil] at N
    (try k_fold)
    k_with "state" => (refine snoc_map hInv ?_; unfold joinF; first | rw [if_pos (by assumption)] | rw [if_neg (by assumption)])
    have kMark := kstMark
    have hn := hin n hm
    have hb : vs'.length < 100 := by
      have h1 := congrArg List.length hEq
      have h2 := hFacts.length
      have h3 := congrArg List.length hInv
      simp only [List.length_append, List.length_cons, List.length_map] at h1 h3
      omega
    k_steps
  case done =>
    rintro ⟨vs, ns, k⟩ u h tk hFacts hInv F N
    dsimp only [kstB] at F N hFacts hInv
    (try k_fold)
    walk_at "m_steps"
    exact hret _ _ _ _ _ F.keep (N _ (.head _)).2.2 (N _ (.head _)).1 (by have e := hInv; subst e; exact hFacts)
end
theorem anew_F3 : True := by
  w_top off
  k_with_none
  trivial
set_option maxHeartbeats 1000000
theorem fill3 : PySem.Challenge.rw_pa0046_01.row.prog = PySem.Challenge.rw_pa0046_01.row.prog ∧ Mine.pre.heap_1 = Mine.pre.heap_1 := by
  k_fill
  exact ⟨rfl, rfl⟩
local macro_rules | `(tactic| walk_at "call ref") => `(tactic| (k_here; (show wpAny _ _ (call (Value.ref 125) []) _ _ _); k_dflt (refine' letters_c ?k1 ?k2 ?k3 ?k4 ?_; (case k1 => k_in); (case k2 => exact Top.keeps (by assumption) (Fr.keep (by assumption))); (case k3 => ktr_room); (case k4 => ktr_units)); k_whole; intro x9 t9 h9 tk9 hl9 hn9 kp9; obtain ⟨F9, N9⟩ := back (by k_asm) (by k_asm) kp9; clear kp9; (try dsimp only)))
def leadN (x rd : Str) (n : Nat) : Int :=
  if (Builtin.Str.occurrences rd ⟨#[n]⟩ 0 rd.length 1).isEmpty = false then 62 + Txt.find rd ⟨#[n]⟩
  else if (Builtin.Str.occurrences x ⟨#[n]⟩ 0 x.length 1).isEmpty = false then Txt.find x ⟨#[n]⟩ else -1
def lead (x rd : Str) (c : Int) : Int := leadN x rd c.toNat
def mapF (x wr rd : Str) : List Int := (KStt.codes (Txt.slice x none (some 62) ++ wr)).map (lead x rd)
section
variable {w : World} {mean : ExcName → Option Value} {mg mb : Str → Option Value} {dp un : Nat} {gd : Option (List Code)} {fr : Option (List Env)} {s : Shared} {Q E : Value → Shared → Prop}
theorem map_c {a : Addr} {wr rd : Str} {t1 t2 : Tok} (X : (pre.heap_1 w.params).In s.heap) (T : Top topProg LS mean mg mb s.heap) (hdp : dp + 2 < recursionLimit) (hun : un + 16 < cLine)
   (ha : IsTup s.heap a #[.str wr t1, .str rd t2]) (hw : wr.length = 2) (hr : rd.length = 2)
   (hret : ∀ x r vs k h' tk', IsLet x → Keeps s.heap h' → s.heap.get? r = none → h'.get? r = some (W.listOf vs.toArray k) → IntsAre vs (mapF x wr rd) → Q (.ref r) { s with heap := h', toks := tk' }) :
   wpAny (model PySem.Challenge.rw_pa0046_01.row.prog w) (Ar dp un gd fr) (call (.ref 139) [Value.ref a]) Q E s := by
  walk_at "m_enter"
  walk_at "m_to"
  rename News _ _ _ _ => N9
  rename Fr _ _ _ _ => F9
  rename IsLet _ => hlet
  obtain ⟨l9, hl9⟩ : ∃ l, l = adr1 N9 := ⟨_, rfl⟩
  dsimp only [adr1] at hl9
  subst hl9
  obtain ⟨x, hl9⟩ : ∃ l, l = letOf hlet := ⟨_, rfl⟩
  dsimp only [letOf] at hl9
  subst hl9
  refine KStt.kst_text (fun c : List Value × List Int × Nat => [(l9, W.listOf c.1.toArray c.2.2)]) (fun _ => []) (fun c => IntsAre c.1 c.2.1) [] (fun pre c => c.2.1 = pre.map (lead x rd)) ([], [], 0) rfl F9 N9 .nil (List.forall_mem_nil _) rfl ?turn ?done
  all_goals clear F9 N9
  case turn =>
    rintro ⟨vs, ns, k⟩ pre post n t u h tk own hEq hOff hFacts hInv F N
    dsimp only [kstB] at F N hOff hFacts hInv
    simp only [List.nil_append, List.cons_append, List.append_nil] at N
    (try k_fold)
    k_with "state" => (refine snoc_map hInv ?_; unfold lead leadN; simp_all; done)
    have kMark := kstMark
    have hb : vs.length < 100 := by
      have h1 := congrArg List.length hEq
      have h2 := hFacts.length
      have h3 := congrArg List.length hInv
      simp only [KStt.codes_length, List.length_append, List.length_cons, List.length_map] at h1 h3
      omega
    k_steps
    all_goals (exfalso; simp_all; done)
  case done =>
    rintro ⟨vs, ns, k⟩ u h tk hFacts hInv F N
    dsimp only [kstB] at F N hFacts hInv
    (try k_fold)
    walk_at "m_steps"
    exact hret _ _ _ _ _ _ hlet F.keep (N _ (.head _)).2.2 (N _ (.head _)).1 (by have e := hInv; subst e; exact hFacts)
end
theorem anew_F5 : True := by
  w_top off
  k_with_none
  trivial
set_option maxHeartbeats 1000000
theorem fill5 : PySem.Challenge.rw_pa0046_01.row.prog = PySem.Challenge.rw_pa0046_01.row.prog ∧ Mine.pre.heap_1 = Mine.pre.heap_1 := by
  k_fill
  exact ⟨rfl, rfl⟩
def o4 (figs : List Int) (p : Int) : List Int :=
  [figs.getD p.toNat 0 * 4 + (figs.getD (p + 1).toNat 0).fdiv 16, (figs.getD (p + 1).toNat 0).fmod 16 * 16 + (figs.getD (p + 2).toNat 0).fdiv 4, (figs.getD (p + 2).toNat 0).fmod 4 * 64 + figs.getD (p + 3).toNat 0]
def octI (figs : List Int) (i : Nat) : List Int := (List.range i).flatMap fun (j : Nat) => o4 figs (0 + (j : Int) * 4)
theorem octI_succ (figs : List Int) (i : Nat) : octI figs (i + 1) = octI figs i ++ o4 figs (0 + (i : Int) * 4) := by
  simp [octI, List.range_succ, List.flatMap_append]
theorem octI_length (figs : List Int) (i : Nat) : (octI figs i).length = 3 * i := by
  induction i with
  | zero => rfl
  | succ i ih => rw [octI_succ, List.length_append, ih]; simp [o4]; omega
def Figs (l : List Int) : Prop := ∀ f ∈ l, 0 ≤ f ∧ f < 64
theorem Figs.getD {l : List Int} (h : Figs l) (i : Nat) : 0 ≤ l.getD i 0 ∧ l.getD i 0 < 64 := by
  rw [List.getD_eq_getElem?_getD]
  cases e : l[i]? with
  | none => simp
  | some x => simpa using h x (List.mem_of_getElem? e)
theorem o4_in {figs : List Int} (h : Figs figs) (p : Int) : KBa.In (o4 figs p) := by
  have a := h.getD p.toNat
  have b := h.getD (p + 1).toNat
  have c := h.getD (p + 2).toNat
  have d := h.getD (p + 3).toNat
  intro n hn
  simp only [o4, List.mem_cons, List.not_mem_nil, or_false] at hn
  generalize figs.getD p.toNat 0 = a' at *
  generalize figs.getD (p + 1).toNat 0 = b' at *
  generalize figs.getD (p + 2).toNat 0 = c' at *
  generalize figs.getD (p + 3).toNat 0 = d' at *
  rw [Int.fdiv_eq_ediv_of_nonneg _ (by omega), Int.fdiv_eq_ediv_of_nonneg _ (by omega), Int.fmod_eq_emod_of_nonneg _ (by omega), Int.fmod_eq_emod_of_nonneg _ (by omega)] at hn
  omega
theorem octI_in {figs : List Int} (h : Figs figs) (i : Nat) : KBa.In (octI figs i) := by
  intro n hn
  obtain ⟨j, _, hj⟩ := List.mem_flatMap.mp hn
  exact o4_in h _ n hj
theorem oct_step {figs octs : List Int} {i : Nat} {a b c : Int} (h : octs = octI figs i) (e : [a, b, c] = o4 figs (0 + (i : Int) * 4)) : octs ++ [a] ++ [b] ++ [c] = octI figs (i + 1) := by
  rw [octI_succ, ← e, h]; simp
local macro_rules | `(tactic| walk_at "call type:range") => `(tactic| (k_here; (with_reducible show wpAny _ _ (call (Value.type "range") [Value.int _ _, Value.int _ _, Value.int _ _]) _ _ _); (rename News _ _ _ _ => lN'); (rename Fr _ _ _ _ => lF'); refine range3_rows lF' lN' (by decide) ?_; clear lN' lF'; intro h9 tk9 t9 u9 v9 rg9 F9 N9 k9; clear k9; (try dsimp only)))
theorem oct_small {figs : List Int} {n : Nat} (hn : figs.length = 4 * n) (hn8 : n < 100) : Builtin.Range.small 0 (figs.length : Int) 4 = true := by
  rw [hn]
  have : ∀ n : Fin 100, Builtin.Range.small 0 ((4 * n.val : Nat) : Int) 4 = true := by decide +kernel
  exact this ⟨n, hn8⟩
theorem oct_size {figs : List Int} {n : Nat} (hn : figs.length = 4 * n) : Builtin.Range.rangeSize 0 (figs.length : Int) 4 = (n : Int) := by
  rw [hn]
  unfold Builtin.Range.rangeSize
  simp only [gt_iff_lt, show (0 : Int) < 4 from by decide, if_true]
  split <;> omega
section
variable {w : World} {mean : ExcName → Option Value} {mg mb : Str → Option Value} {dp un : Nat} {gd : Option (List Code)} {fr : Option (List Env)} {s : Shared} {Q E : Value → Shared → Prop}
theorem octets_c {a : Addr} {vs : List Value} {figs : List Int} {n : Nat} (X : (pre.heap_1 w.params).In s.heap) (T : Top topProg LS mean mg mb s.heap) (hdp : dp + 1 < recursionLimit) (hun : un + 8 < cLine)
   (ha : s.heap.IsList a vs.toArray) (hv : IntsAre vs figs) (hf : Figs figs) (hn : figs.length = 4 * n) (hn8 : n < 100)
   (hret : ∀ t h' tk', Keeps s.heap h' → Q (.bytes (byteArr (octI figs n)) t) { s with heap := h', toks := tk' }) :
   wpAny (model PySem.Challenge.rw_pa0046_01.row.prog w) (Ar dp un gd fr) (call (.ref 153) [Value.ref a]) Q E s := by
  walk_at "m_enter"
  walk_at "m_to"
  rename News _ _ _ _ => N9
  rename Fr _ _ _ _ => F9
  rename IsRange _ _ _ _ _ _ _ _ => R9
  obtain ⟨l9, hl9⟩ : ∃ l, l = adr1 N9 := ⟨_, rfl⟩
  dsimp only [adr1] at hl9
  subst hl9
  refine rng_loop (n := n) (fun c : List Value × List Int × Nat => [(l9, W.listOf c.1.toArray c.2.2)]) (fun _ => []) (fun c => IntsAre c.1 c.2.1) [] (fun i c => c.2.1 = octI figs i) ([], [], 0) rfl R9 ?small ?size F9 N9 .nil (List.forall_mem_nil _) rfl ?turn ?done
  all_goals clear F9 N9
  case small => exact oct_small hn hn8
  case size => exact oct_size hn
  case turn =>
    rintro ⟨vs', ns, k⟩ i t u h tk own hi hOff hFacts hInv F N
    dsimp only [kstB] at F N hOff hFacts hInv
    simp only [List.nil_append, List.cons_append, List.append_nil] at N
    (try k_fold)
    have kMark := kstMark
    have hb : vs'.length < 400 := by
      have h2 := hFacts.length
      have h3 := congrArg List.length hInv
      rw [octI_length] at h3
      omega
    walk_at "m_turn"
    rename News _ _ _ _ => nE
    simp only [List.push_toArray] at nE
    refine kend1 (by assumption) nE (((hFacts.append (.cons _ _ .nil)).append (.cons _ _ .nil)).append (.cons _ _ .nil)) (by kst_same) ?_
    rw [rkS_length]
    exact oct_step hInv rfl
  case done =>
    rintro ⟨vs', ns, k⟩ u h tk hFacts hInv F N
    dsimp only [kstB] at F N hFacts hInv
    (try k_fold)
    iterate 8 (first | walk1 | (dsimp only; walk1))
    refine KBa.make_K F N rfl (News.isList N (.head _)) (by have e := hInv; subst e; exact hFacts) (octI_in hf n) (by rw [octI_length]; omega) ?_
    intro h' t' k' F' N' _
    k_unfold
    exact hret _ _ _ F'.keep
end
theorem anew_BaseN : True := by
  w_top off
  k_with_none
  trivial
set_option maxHeartbeats 1000000
/-- a def is entered that turns objects of its caller's ledger: they are hidden from the base -/
theorem enterN {prog : Program} {w : World} {A : Around} {s : Shared} {K : Frag} {p : Program} {loose : List Str} {mean : ExcName → Option Value} {mg mb : Str → Option Value} {h₀ : Heap} {L : Addr} {m : Str → Option Value} {news : List (Addr × Obj)}
    {Q E : Value → Shared → Prop} {name qual : Str} {params : Arguments} {body : List Stmt} {scope : Scope} {dV kV doc pm cdv ct oc : Value} {an od : Option Addr} {osl : Array (Option Value)} {f : Addr} {vs : List Value} {kw : List (Str × Value)} {binds : List (Str × Value)}
    (X₀ : K.In h₀) (T₀ : Top p loose mean mg mb h₀) (F : Fr h₀ L s.heap m) (N : News h₀ L s.heap news)
    (ho : K.lookup f = some ⟨oc, od, .func (fnOf name qual params body scope dV kV doc pm an cdv ct), osl⟩) (hcd : codeIn K cdv qual = true) (hroom : A.depth < recursionLimit)
    (hbind : BindsTo s (fnOf name qual params body scope dV kV doc pm an cdv ct) ⟨vs, kw⟩ binds) (hloc : ∀ y ∈ binds, scope.names.lookup y.1 = some .local)
    (h : ∀ g L' h₁, Fr g L' h₁ (fun y => binds.reverse.lookup y) → News g L' h₁ news → K.In g → Top p loose mean mg mb g → (∀ b o, (∀ q ∈ news, b ≠ q.1) → s.heap.get? b = some o → g.get? b = some o) → (∀ b, s.heap.get? b = none → g.get? b = none) →
      wpAny (model prog w) (A.deeper (envOf qual scope L' f cdv)) (execs body (envOf qual scope L' f cdv))
        (fun fl s' => Q (match fl with | .ret v => v | _ => .none) s')
        (fun e s' => wpAny (model prog w) (A.deeper (envOf qual scope L' f cdv)) (leaving (envOf qual scope L' f cdv) e) (fun _ s'' => E e s'') (fun e' s'' => E e' s'') s')
        { s with heap := h₁, toks := s.toks + binds.length })
    (hco : scope.isCoroutine = false) (hgen : scope.isGenerator = false) (hk : scope.kind = .function)
    (hcell : ∀ x ∈ scope.names, x.2 ≠ .cell) : wpAny (model prog w) A (call (.ref f) vs kw) Q E s := by
  have X := X₀.keeps F.keep
  have T := T₀.keeps F.keep
  refine wpAny_call ?_
  refine codeAny_call_def (fd := fnOf name qual params body scope dV kV doc pm an cdv ct) (body := body) (binds := binds) hroom (X _ _ ho) rfl T.nolimit (codeRec_of X hcd) rfl hbind hcell hloc (fun h₁ hns hk₁ => ?_) hco hgen hk
  have nm : ∀ b o, h₀.get? b = some o → b ∉ news.map (·.1) := fun b o e q => by
    obtain ⟨p, hp, rfl⟩ := List.mem_map.mp q
    rw [(N p hp).2.2] at e; cases e
  have st : h₀.StaysIn (hideAll s.heap (news.map (·.1))) := fun b o e => hideAll_get _ (F.keep b o e) (nm b o e)
  have hX : K.In (hideAll s.heap (news.map (·.1))) := X₀.keeps st
  have hT : Top p loose mean mg mb (hideAll s.heap (news.map (·.1))) := T₀.keeps st
  refine h (hideAll s.heap (news.map (·.1))) s.heap.objs.size h₁ ⟨hns, fun b o e => hk₁ b o (of_hideAll _ e), Nat.le_of_eq (hideAll_size _ _)⟩
    (fun p hp => ⟨hk₁ _ _ (N p hp).1, Nat.ne_of_lt (Heap.lt_size (N p hp).1), hideAll_none _ (List.mem_map_of_mem hp)⟩) hX hT (fun b o hb e => hideAll_get _ e fun q => ?_) (fun b e => ?_)
  · obtain ⟨p, hp, rfl⟩ := List.mem_map.mp q
    exact hb p hp rfl
  · cases q : (hideAll s.heap (news.map (·.1))).get? b with
    | none => rfl
    | some o => rw [of_hideAll _ q] at e; cases e
local macro_rules | `(tactic| walk_at "m_enterN") => `(tactic| (
  k_dflt (refine' enterN ?k1 ?k2 ?kF ?kN ?k3 ?k4 ?k5 ?k6 ?k7 ?_ ?c1 ?c2 ?c3 ?c4; (case k1 => assumption); (case k2 => assumption); (case kF => assumption); (case kN => assumption); (case k3 => k_is); (case k4 => k_is); (case k5 => ktr_room); (case k6 => first | exact BindsTo.of_eq rfl | exact binds_K (by k_in) rfl (by k_is) rfl rfl rfl | exact kp_binds (by k_in) (fun _ => by rfl)); (case k7 => exact locs rfl); (case c1 => exact rfl); (case c2 => exact rfl); (case c3 => exact rfl); (case c4 => decide)); k_whole; intro g' L' h' F' N' X' T' kg' kn'; (try dsimp only); (try k_fold)))
theorem anew_BaseT : True := by
  w_top off
  k_with_none
  trivial
set_option maxHeartbeats 1000000
/-- a def is entered whose frames' locals may be written (an exception is caught within): the caller's locals go onto the ledger, behind its own objects -/
theorem enterT {prog : Program} {w : World} {dp un : Nat} {gd : Option (List Code)} {l : List Env} {s : Shared} {K : Frag} {p : Program} {loose : List Str} {mean : ExcName → Option Value} {mg mb : Str → Option Value} {h₀ : Heap} {L aF : Addr} {m : Str → Option Value} {new frs : List (Addr × Obj)} {cn : Str} {cs : Scope} {ccd : Value} {cl : List (Str × Addr)}
    {Q E : Value → Shared → Prop} {name qual : Str} {params : Arguments} {body : List Stmt} {scope : Scope} {dV kV doc pm cdv ct oc : Value} {an od : Option Addr} {osl : Array (Option Value)} {f : Addr} {vs : List Value} {kw : List (Str × Value)} {binds : List (Str × Value)}
    (X₀ : K.In h₀) (T₀ : Top p loose mean mg mb h₀) (F : Fr h₀ L s.heap m) (N : News h₀ L s.heap (new ++ frs)) (Fs : TI.Frs l frs) (hck : cs.kind = .function)
    (ho : K.lookup f = some ⟨oc, od, .func (fnOf name qual params body scope dV kV doc pm an cdv ct), osl⟩) (hcd : codeIn K cdv qual = true) (hroom : dp < recursionLimit)
    (hbind : BindsTo s (fnOf name qual params body scope dV kV doc pm an cdv ct) ⟨vs, kw⟩ binds) (hloc : ∀ y ∈ binds, scope.names.lookup y.1 = some .local)
    (h : ∀ L' h₁ oL, TI.Caller h₀ L m oL → TI.Frs (envX cn cs L aF ccd cl :: l) ((L, oL) :: frs) → Fr h₀ L' h₁ (fun y => binds.reverse.lookup y) → News h₀ L' h₁ (new ++ (L, oL) :: frs) →
      wpAny (model prog w) ((Ar dp un gd (some (envX cn cs L aF ccd cl :: l))).deeper (envOf qual scope L' f cdv)) (execs body (envOf qual scope L' f cdv))
        (fun fl s' => Q (match fl with | .ret v => v | _ => .none) s')
        (fun e s' => wpAny (model prog w) ((Ar dp un gd (some (envX cn cs L aF ccd cl :: l))).deeper (envOf qual scope L' f cdv)) (leaving (envOf qual scope L' f cdv) e) (fun _ s'' => E e s'') (fun e' s'' => E e' s'') s')
        { s with heap := h₁, toks := s.toks + binds.length })
    (hco : scope.isCoroutine = false) (hgen : scope.isGenerator = false) (hk : scope.kind = .function)
    (hcell : ∀ x ∈ scope.names, x.2 ≠ .cell) : wpAny (model prog w) (Ar dp un gd (some (envX cn cs L aF ccd cl :: l))) (call (.ref f) vs kw) Q E s := by
  have X := X₀.keeps F.keep
  have T := T₀.keeps F.keep
  refine wpAny_call ?_
  refine codeAny_call_def (fd := fnOf name qual params body scope dV kV doc pm an cdv ct) (body := body) (binds := binds) hroom (X _ _ ho) rfl T.nolimit (codeRec_of X hcd) rfl hbind hcell hloc (fun h₁ hns hk₁ => ?_) hco hgen hk
  obtain ⟨oL, es, ep, hL, hLd, hLk, hLf⟩ := F.ns
  have hLt := Heap.lt_size hL
  have hkind : (envX cn cs L aF ccd cl).scope.kind ≠ .module := by
    show cs.kind ≠ .module
    rw [hck]; decide
  refine h s.heap.objs.size h₁ oL ⟨fun h' sl e => ⟨_, es, ep, e, hLd, hLk, hLf⟩, ⟨es, ep, hLd⟩, F.above⟩ ⟨hkind, rfl, ⟨es, ep, hLd⟩, Fs⟩
    ⟨hns, fun b o e => hk₁ b o (F.keep b o e), Nat.le_trans F.above (Nat.le_of_lt hLt)⟩ (fun q hq => ?_)
  rcases List.mem_append.mp hq with hq | hq
  · obtain ⟨h1, h2, h3⟩ := N q (List.mem_append_left _ hq)
    exact ⟨hk₁ _ _ h1, Nat.ne_of_lt (Heap.lt_size h1), h3⟩
  · rcases List.mem_cons.mp hq with rfl | hq
    · exact ⟨hk₁ _ _ hL, Nat.ne_of_lt hLt, Heap.get?_none_of_le F.above⟩
    · obtain ⟨h1, h2, h3⟩ := N q (List.mem_append_right _ hq)
      exact ⟨hk₁ _ _ h1, Nat.ne_of_lt (Heap.lt_size h1), h3⟩
/-- and left -/
theorem leaveT {h₀ h : Heap} {L L' : Addr} {m m' : Str → Option Value} {oL : Obj} {new frs frs' : List (Addr × Obj)} (C : TI.Caller h₀ L m oL) (F' : Fr h₀ L' h m') (N' : News h₀ L' h (new ++ frs')) (SU : TI.SameUp ((L, oL) :: frs) frs')
    (hoff : ∀ p ∈ new, p.1 ≠ L) (hof2 : ∀ p ∈ frs, p.1 ≠ L) : ∃ frs₁, TI.SameUp frs frs₁ ∧ Fr h₀ L h m ∧ News h₀ L h (new ++ frs₁) := by
  cases frs' with
  | nil => exact False.elim SU
  | cons q qs =>
    obtain ⟨h1, ⟨sl, h2⟩, h3⟩ := SU
    have hq := (N' q (List.mem_append_right _ List.mem_cons_self)).1
    have h1' : q.1 = L := h1
    have h2' : q.2 = { oL with slots := sl } := h2
    rw [h1', h2'] at hq
    refine ⟨qs, h3, ⟨C.ns _ sl hq, F'.keep, C.above⟩, fun p hp => ?_⟩
    rcases List.mem_append.mp hp with hp | hp
    · obtain ⟨x1, x2, x3⟩ := N' p (List.mem_append_left _ hp)
      exact ⟨x1, hoff p hp, x3⟩
    · obtain ⟨x1, x2, x3⟩ := N' p (List.mem_append_right _ (List.mem_cons_of_mem _ hp))
      obtain ⟨y, hy, e⟩ := h3.fwd p hp
      exact ⟨x1, by rw [e]; exact hof2 y hy, x3⟩
theorem anew_BaseC : True := by
  w_top off
  k_with_none
  trivial
set_option maxHeartbeats 1000000
/-- a def with cells is entered, pure -/
theorem enterC {prog : Program} {w : World} {A : Around} {s : Shared} {K : Frag} {p : Program} {loose : List Str} {mean : ExcName → Option Value} {mg mb : Str → Option Value}
    {Q E : Value → Shared → Prop} {name qual : Str} {params : Arguments} {body : List Stmt} {scope : Scope} {dV kV doc pm cdv ct oc : Value} {an od : Option Addr} {osl : Array (Option Value)} {f : Addr} {vs : List Value} {kw : List (Str × Value)} {binds : List (Str × Value)}
    (X : K.In s.heap) (T : Top p loose mean mg mb s.heap)
    (ho : K.lookup f = some ⟨oc, od, .func (fnOf name qual params body scope dV kV doc pm an cdv ct), osl⟩) (hcd : codeIn K cdv qual = true) (hroom : A.depth < recursionLimit)
    (hbind : BindsTo s (fnOf name qual params body scope dV kV doc pm an cdv ct) ⟨vs, kw⟩ binds)
    (hkind : ∀ n, ∀ x ∈ binds, scope.names.lookup x.1 = some .local ∨ (scope.names.lookup x.1 = some .cell ∧ ((cellsFrom n scope.names []).lookup x.1).isSome = true))
    (hnd : ((cellsFrom 0 scope.names []).map (·.1)).Nodup)
    (h : ∀ L' h₁ tk cells, Fr s.heap L' h₁ (bindL (envOfC qual scope L' f cdv).kindOf binds fun _ => none) → News s.heap L' h₁ cells →
      CellsAre (bindC (envOfC qual scope L' f cdv).kindOf binds fun _ => none) (cellsFrom (L' + 1) scope.names []) cells →
      wpAny (model prog w) (A.deeper (envOfC qual scope L' f cdv)) (execs body (envOfC qual scope L' f cdv))
        (fun fl s' => Q (match fl with | .ret v => v | _ => .none) s')
        (fun e s' => wpAny (model prog w) (A.deeper (envOfC qual scope L' f cdv)) (leaving (envOfC qual scope L' f cdv) e) (fun _ s'' => E e s'') (fun e' s'' => E e' s'') s')
        { s with heap := h₁, toks := tk })
    (hco : scope.isCoroutine = false) (hgen : scope.isGenerator = false) (hk : scope.kind = .function) : wpAny (model prog w) A (call (.ref f) vs kw) Q E s := by
  refine wpAny_call ?_
  refine codeAny_call_function (fd := fnOf name qual params body scope dV kV doc pm an cdv ct) hroom (X _ _ ho) rfl hco hgen rfl (codeRec_of X hcd) (hbind _ _ _ _ ?_)
  refine wpAny_newFunctionEnv_cells hk (hkind _) fun env' he s' x => ?_
  subst he
  refine ⟨T.nolimit.keeps x.toInCall.keep, codeAny_func ?_⟩
  obtain ⟨h₁, tk, rfl, _⟩ := x.done
  have hk₁ := x.toInCall.keep
  obtain ⟨cells, NC, Y⟩ := Cl.news (h₀ := s.heap) (Nat.le_refl _) fun n c hm => ⟨x.cell n c (lookup_of_mem_nodup (cellsFrom_names scope.names 0 (s.heap.objs.size + 1) [] [] rfl ▸ hnd) hm), x.above n c hm⟩
  exact h s.heap.objs.size h₁ tk cells ⟨x.toInCall.ns, hk₁, Nat.le_refl _⟩ NC Y

section
variable {prog : Program} {w : World} {A : Around} {E : Value → Shared → Prop} {s : Shared} {env : Env} {h₀ : Heap} {x y : Str} {px py pos : Pos} {body : List Stmt} {Q : Flow → Shared → Prop} {m : Str → Option Value} {oc : Obj} {a c : Addr} {vs : List Value} {v₀ : Option Value} {news : List (Addr × Obj)}
/-- the end of a turn -/
def CellEnd (h₀ : Heap) (L c I : Addr) (oI : Obj) (J : (Str → Option Value) → List (Addr × Obj) → Prop) (s : Shared) (s₂ : Shared) : Prop :=
  ∃ h' tk' m' oc' v' news', s₂ = { s with heap := h', toks := tk' } ∧ Fr h₀ L h' m' ∧ News h₀ L h' ((c, oc') :: (I, oI) :: news') ∧ oc'.data = .cell v' ∧ (∀ p ∈ news', p.1 ≠ c ∧ p.1 ≠ I) ∧ J m' news'
def CellPost (h₀ : Heap) (L c I : Addr) (oI : Obj) (J : (Str → Option Value) → List (Addr × Obj) → Prop) (s : Shared) (Q : Flow → Shared → Prop) (f : Flow) (s₂ : Shared) : Prop :=
  match f with
  | .ret v => Q (.ret v) s₂
  | .brk => Q .next s₂
  | .cont => CellEnd h₀ L c I oI J s s₂
  | .next => CellEnd h₀ L c I oI J s s₂
/-- a for loop over a list below, whose target is a cell -/
theorem For_cell (hk : env.scope.kind = .function) (hx : env.kindOf x = some .cell) (hc : env.cells.lookup x = some c) (hh : A.handled = none)
    (ha : h₀.IsList a vs.toArray) (F : Fr h₀ env.locals s.heap m) (N : News h₀ env.locals s.heap ((c, oc) :: news)) (hoc : oc.data = .cell v₀) (hcn : ∀ p ∈ news, p.1 ≠ c)
    (J : Nat → (Str → Option Value) → List (Addr × Obj) → Prop) (h0 : J 0 m news)
    (it : ∀ Q', Q' (.ref a) s → wpAny (model prog w) A (eval (.Name y py) env) Q' E s)
    (step : ∀ i v m₁ oc₁ news₁ I oI h tk, i < vs.length → vs[i]? = some v → oc₁.data = .cell (some v) → J i m₁ news₁ → (∀ p ∈ news₁, p.1 ≠ c ∧ p.1 ≠ I) → c ≠ I → Fr h₀ env.locals h m₁ → News h₀ env.locals h ((c, oc₁) :: (I, oI) :: news₁) →
      wpAny (model prog w) A (execs body env) (CellPost h₀ env.locals c I oI (J (i + 1)) { s with heap := h, toks := tk } Q) E { s with heap := h, toks := tk })
    (done : ∀ h' tk m' oc' news', Fr h₀ env.locals h' m' → News h₀ env.locals h' ((c, oc') :: news') → J vs.length m' news' → Q .next { s with heap := h', toks := tk })
    (hs : ∀ x, foldedSetIterable (.Name y py) env x = pure x := by intro _; rfl)
    (hE : PassesOwn (model prog w) A env E := by passes_own) :
    wpAny (model prog w) A (exec (.For (.Name x px) (.Name y py) body [] pos) env) Q E s := by
  refine wpAny_For (it _ ?_) hs
  have haN : s.heap.IsList a vs.toArray := let ⟨o, e, r⟩ := ha; ⟨o, F.keep _ _ e, r⟩
  refine wpAny_pyIter_list haN ?_
  have hne : a ≠ s.heap.objs.size := fun e => by
    obtain ⟨o, e1, _⟩ := haN
    exact absurd (Heap.lt_size e1) (e ▸ Nat.lt_irrefl _)
  have hI₀ : h₀.get? s.heap.objs.size = none := next_is_new F
  have hLI : env.locals ≠ s.heap.objs.size := Nat.ne_of_lt F.ns.lt
  have hcI : c ≠ s.heap.objs.size := Nat.ne_of_lt (Heap.lt_size (N (c, oc) (.head _)).1)
  have W := Walks.list (prog := prog) (w := w) (A := A) hh s.heap.objs.size a hne vs.toArray
  generalize hIq : s.heap.objs.size = I at *
  have up : ∀ b o, s.heap.get? b = some o → (s.heap.push { cls := .type "list_iterator", data := .fields #[.ref a, .int 0 0] }).get? b = some o := fun _ _ e => Heap.get?_push_of_some _ e
  have hnI : ∀ p ∈ news, p.1 ≠ I := fun p hp e => absurd (Heap.lt_size (N p (List.mem_cons_of_mem _ hp)).1) (by rw [e, ← hIq]; exact Nat.lt_irrefl _)
  refine codeAny_forLoop (R := fun r s' => match r with | .ok f => Q f s' | .error e => cameBackBy (model prog w) A env E e s')
    (fun k s' => ∃ h' tk m' oc' v' news' i, s' = { s with heap := h', toks := tk } ∧ (h'.IsListIter I a i ∧ h'.IsList a vs.toArray) ∧ Fr h₀ env.locals h' m' ∧ News h₀ env.locals h' ((c, oc') :: news') ∧ oc'.data = .cell v' ∧ (∀ p ∈ news', p.1 ≠ c ∧ p.1 ≠ I) ∧ J i m' news' ∧ i ≤ vs.length ∧ k = vs.length + 1 - i) ?_ (vs.length + 1)
    ⟨_, s.toks, m, oc, v₀, news, 0, rfl, ⟨⟨_, by rw [← hIq]; exact Heap.get?_push_size _ rfl, rfl, rfl⟩, haN.push _⟩, F.push _, N.grown up, hoc, fun p hp => ⟨hcn p hp, hnI p hp⟩, h0, Nat.zero_le _, rfl⟩
  rintro k s' ⟨h', tk, m', oc', v', news', i, rfl, hst', F', N', hd', hnw', hJ, hi, rfl⟩
  by_cases hlt : i < vs.length
  · refine W.item i _ _ _ (by simpa using hlt) hst' fun v h₁ tk₁ hP hst₁ hk₁ => ?_
    have kk : ∀ b o, b ≠ I → h'.get? b = some o → h₁.get? b = some o := fun b o hb e => hk₁ b o (by simpa using hb) e
    have F₁ : Fr h₀ env.locals h₁ m' := ⟨F'.ns.at' fun o e => kk _ o hLI e, fun b o e => kk b o (fun q => by rw [q, hI₀] at e; cases e) (F'.keep b o e), F'.above⟩
    have N₁ : News h₀ env.locals h₁ ((c, oc') :: news') := fun p hp => ⟨kk _ _ (by
      rcases List.mem_cons.mp hp with rfl | hp
      · exact hcI
      · exact (hnw' p hp).2) (N' p hp).1, (N' p hp).2⟩
    refine wpAny_assign_Name (wpAny_storeName_cell hk hx hc ⟨oc', (N₁ _ (.head _)).1, hd'⟩ fun h₂ hv₂ hs₂ => ?_)
    obtain ⟨oc₂, hg₂, hd₂⟩ := hv₂
    obtain ⟨oI, hgI, hrI⟩ := hst₁.1
    have hcL : c ≠ env.locals := (N₁ _ (.head _)).2.1
    have hc0 : h₀.get? c = none := (N₁ _ (.head _)).2.2
    have F₂ : Fr h₀ env.locals h₂ m' := ⟨F₁.ns.sameBut hs₂ (Ne.symm hcL), fun b o e => (hs₂.2 b (fun q => by rw [q, hc0] at e; cases e)).trans (F₁.keep b o e), F₁.above⟩
    have N₂ : News h₀ env.locals h₂ ((c, oc₂) :: (I, oI) :: news') := fun p hp => by
      rcases List.mem_cons.mp hp with rfl | hp
      · exact ⟨hg₂, hcL, hc0⟩
      · rcases List.mem_cons.mp hp with rfl | hp
        · exact ⟨(hs₂.2 I (Ne.symm hcI)).trans hgI, Ne.symm hLI, hI₀⟩
        · exact ⟨(hs₂.2 _ (hnw' p hp).1).trans (N₁ p (List.mem_cons_of_mem _ hp)).1, (N₁ p (List.mem_cons_of_mem _ hp)).2⟩
    refine wpAny_passesOwn hE ?_
    refine wpAny_mono (step i v m' oc₂ news' I oI h₂ tk₁ hlt (by simpa using hP) hd₂ hJ hnw' hcI F₂ N₂) (fun f s₃ h₃ => ?_) fun _ _ e => e
    have fin : CellEnd h₀ env.locals c I oI (J (i + 1)) { s with heap := h₂, toks := tk₁ } s₃ → ∃ k', k' < vs.length + 1 - i ∧ ∃ h' tk m' oc' v' news' i, s₃ = { s with heap := h', toks := tk } ∧ (h'.IsListIter I a i ∧ h'.IsList a vs.toArray) ∧ Fr h₀ env.locals h' m' ∧ News h₀ env.locals h' ((c, oc') :: news') ∧ oc'.data = .cell v' ∧ (∀ p ∈ news', p.1 ≠ c ∧ p.1 ≠ I) ∧ J i m' news' ∧ i ≤ vs.length ∧ k' = vs.length + 1 - i := by
      rintro ⟨h₄, tk₄, m₄, oc₄, v₄, news₄, rfl, F₄, N₄, hd₄, hn₄, hJ₄⟩
      refine ⟨vs.length + 1 - (i + 1), by omega, h₄, tk₄, m₄, oc₄, v₄, news₄, i + 1, rfl, ⟨⟨oI, (N₄ _ (.tail _ (.head _))).1, hrI⟩, ?_⟩, F₄, fun p hp => N₄ p ?_, hd₄, hn₄, hJ₄, hlt, rfl⟩
      · obtain ⟨o, e, r⟩ := ha
        exact ⟨o, F₄.keep _ _ e, r⟩
      · rcases List.mem_cons.mp hp with rfl | hp
        · exact .head _
        · exact .tail _ (.tail _ hp)
    cases f with
    | ret v => exact h₃
    | brk => exact h₃
    | cont => exact fin h₃
    | next => exact fin h₃
  · have hin : i = vs.length := by omega
    subst hin
    refine W.done _ _ _ (by simpa using hst') fun h₁ tk₁ hk₁ => wpAny_execs_nil ?_
    have kk : ∀ b o, b ≠ I → h'.get? b = some o → h₁.get? b = some o := fun b o hb e => hk₁ b o (by simpa using hb) e
    refine done h₁ tk₁ m' oc' news' ⟨F'.ns.at' fun o e => kk _ o hLI e, fun b o e => kk b o (fun q => by rw [q, hI₀] at e; cases e) (F'.keep b o e), F'.above⟩ (fun p hp => ⟨kk _ _ ?_ (N' p hp).1, (N' p hp).2⟩) hJ
    rcases List.mem_cons.mp hp with rfl | hp
    · exact hcI
    · exact (hnw' p hp).2
end
theorem anew_BaseG : True := by
  w_top off
  k_with_none
  trivial
set_option maxHeartbeats 1000000
section
variable {prog : Program} {w : World} {A : Around} {s : Shared} {K : Frag} {p : Program} {loose : List Str} {mean : ExcName → Option Value} {mg mb : Str → Option Value} {g : Heap} {news : List (Addr × Obj)}
    {Q E : Value → Shared → Prop} {name qual : Str} {params : Arguments} {body : List Stmt} {scope : Scope} {dV kV doc pm cdv ct oc : Value} {an od : Option Addr} {osl : Array (Option Value)} {f : Addr} {vs : List Value} {kw : List (Str × Value)} {binds : List (Str × Value)}
/-- a def (or a closure) is entered over any base: what is not in the base stands on the ledger -/
theorem enterX {cl : List (Str × Addr)} {fo : Obj} (T : Top p loose mean mg mb g) (kg : Keeps g s.heap) (hgs : g.objs.size ≤ s.heap.objs.size) (Nh : ∀ q ∈ news, s.heap.get? q.1 = some q.2 ∧ g.get? q.1 = none)
    (hf : s.heap.get? f = some fo) (hd : fo.data = .func (fnX name qual params body scope cl dV kV doc pm an cdv ct)) (hcd : s.heap.CodeRec cdv qual) (hroom : A.depth < recursionLimit)
    (hbind : BindsTo s (fnX name qual params body scope cl dV kV doc pm an cdv ct) ⟨vs, kw⟩ binds) (hloc : ∀ y ∈ binds, scope.names.lookup y.1 = some .local)
    (h : ∀ L' h₁, Fr g L' h₁ (fun y => binds.reverse.lookup y) → News g L' h₁ news → (∀ q ∈ news, q.1 < L') →
      wpAny (model prog w) (A.deeper (envX qual scope L' f cdv cl)) (execs body (envX qual scope L' f cdv cl))
        (fun fl s' => Q (match fl with | .ret v => v | _ => .none) s')
        (fun e s' => wpAny (model prog w) (A.deeper (envX qual scope L' f cdv cl)) (leaving (envX qual scope L' f cdv cl) e) (fun _ s'' => E e s'') (fun e' s'' => E e' s'') s')
        { s with heap := h₁, toks := s.toks + binds.length })
    (hco : scope.isCoroutine = false) (hgen : scope.isGenerator = false) (hk : scope.kind = .function)
    (hcell : ∀ x ∈ scope.names, x.2 ≠ .cell) : wpAny (model prog w) A (call (.ref f) vs kw) Q E s := by
  refine wpAny_call ?_
  refine codeAny_call_def (fd := fnX name qual params body scope cl dV kV doc pm an cdv ct) (body := body) (binds := binds) hroom hf hd (T.nolimit.keeps kg) hcd rfl hbind hcell hloc (fun h₁ hns hk₁ => ?_) hco hgen hk
  exact h s.heap.objs.size h₁ ⟨hns, fun b o e => hk₁ b o (kg b o e), hgs⟩ (fun q hq => ⟨hk₁ _ _ (Nh q hq).1, Nat.ne_of_lt (Heap.lt_size (Nh q hq).1), (Nh q hq).2⟩) (fun q hq => Heap.lt_size (Nh q hq).1)
theorem enterG (X : K.In g) (T : Top p loose mean mg mb g) (kg : Keeps g s.heap) (hgs : g.objs.size ≤ s.heap.objs.size) (Nh : ∀ q ∈ news, s.heap.get? q.1 = some q.2 ∧ g.get? q.1 = none)
    (ho : K.lookup f = some ⟨oc, od, .func (fnOf name qual params body scope dV kV doc pm an cdv ct), osl⟩) (hcd : codeIn K cdv qual = true) (hroom : A.depth < recursionLimit)
    (hbind : BindsTo s (fnOf name qual params body scope dV kV doc pm an cdv ct) ⟨vs, kw⟩ binds) (hloc : ∀ y ∈ binds, scope.names.lookup y.1 = some .local)
    (h : ∀ L' h₁, Fr g L' h₁ (fun y => binds.reverse.lookup y) → News g L' h₁ news → (∀ q ∈ news, q.1 < L') →
      wpAny (model prog w) (A.deeper (envOf qual scope L' f cdv)) (execs body (envOf qual scope L' f cdv))
        (fun fl s' => Q (match fl with | .ret v => v | _ => .none) s')
        (fun e s' => wpAny (model prog w) (A.deeper (envOf qual scope L' f cdv)) (leaving (envOf qual scope L' f cdv) e) (fun _ s'' => E e s'') (fun e' s'' => E e' s'') s')
        { s with heap := h₁, toks := s.toks + binds.length })
    (hco : scope.isCoroutine = false) (hgen : scope.isGenerator = false) (hk : scope.kind = .function)
    (hcell : ∀ x ∈ scope.names, x.2 ≠ .cell) : wpAny (model prog w) A (call (.ref f) vs kw) Q E s :=
  enterX (cl := []) T kg hgs Nh (kg _ _ (X _ _ ho)) rfl (codeRec_of (X.keeps kg) hcd) hroom hbind hloc h hco hgen hk hcell
/-- the same for a def with cells -/
theorem enterCG (X : K.In g) (T : Top p loose mean mg mb g) (kg : Keeps g s.heap) (hgs : g.objs.size ≤ s.heap.objs.size) (Nh : ∀ q ∈ news, s.heap.get? q.1 = some q.2 ∧ g.get? q.1 = none)
    (ho : K.lookup f = some ⟨oc, od, .func (fnOf name qual params body scope dV kV doc pm an cdv ct), osl⟩) (hcd : codeIn K cdv qual = true) (hroom : A.depth < recursionLimit)
    (hbind : BindsTo s (fnOf name qual params body scope dV kV doc pm an cdv ct) ⟨vs, kw⟩ binds)
    (hkind : ∀ n, ∀ x ∈ binds, scope.names.lookup x.1 = some .local ∨ (scope.names.lookup x.1 = some .cell ∧ ((cellsFrom n scope.names []).lookup x.1).isSome = true))
    (hnd : ((cellsFrom 0 scope.names []).map (·.1)).Nodup)
    (h : ∀ L' h₁ tk cells, Fr g L' h₁ (bindL (envOfC qual scope L' f cdv).kindOf binds fun _ => none) → News g L' h₁ (cells ++ news) →
      CellsAre (bindC (envOfC qual scope L' f cdv).kindOf binds fun _ => none) (cellsFrom (L' + 1) scope.names []) cells → (∀ q ∈ news, q.1 < L') →
      wpAny (model prog w) (A.deeper (envOfC qual scope L' f cdv)) (execs body (envOfC qual scope L' f cdv))
        (fun fl s' => Q (match fl with | .ret v => v | _ => .none) s')
        (fun e s' => wpAny (model prog w) (A.deeper (envOfC qual scope L' f cdv)) (leaving (envOfC qual scope L' f cdv) e) (fun _ s'' => E e s'') (fun e' s'' => E e' s'') s')
        { s with heap := h₁, toks := tk })
    (hco : scope.isCoroutine = false) (hgen : scope.isGenerator = false) (hk : scope.kind = .function) : wpAny (model prog w) A (call (.ref f) vs kw) Q E s := by
  refine wpAny_call ?_
  refine codeAny_call_function (fd := fnOf name qual params body scope dV kV doc pm an cdv ct) hroom (kg _ _ (X _ _ ho)) rfl hco hgen rfl (codeRec_of (X.keeps kg) hcd) (hbind _ _ _ _ ?_)
  refine wpAny_newFunctionEnv_cells hk (hkind _) fun env' he s' x => ?_
  subst he
  refine ⟨(T.nolimit.keeps kg).keeps x.toInCall.keep, codeAny_func ?_⟩
  obtain ⟨h₁, tk, rfl, _⟩ := x.done
  have hk₁ := x.toInCall.keep
  obtain ⟨cells, NC, Y⟩ := Cl.news (h₀ := g) hgs fun n c hm => ⟨x.cell n c (lookup_of_mem_nodup (cellsFrom_names scope.names 0 (s.heap.objs.size + 1) [] [] rfl ▸ hnd) hm), x.above n c hm⟩
  refine h s.heap.objs.size h₁ tk cells ⟨x.toInCall.ns, fun b o e => hk₁ b o (kg b o e), hgs⟩ (fun q hq => ?_) Y (fun q hq => Heap.lt_size (Nh q hq).1)
  rcases List.mem_append.mp hq with hq | hq
  · exact NC q hq
  · exact ⟨hk₁ _ _ (Nh q hq).1, Nat.ne_of_lt (Heap.lt_size (Nh q hq).1), (Nh q hq).2⟩
end
local macro_rules | `(tactic| walk_at "m_enterX") => `(tactic| (
  k_dflt (refine' enterX ?k2 ?kg ?hgs ?Nh ?k3 ?kd ?k4 ?k5 ?k6 ?k7 ?_ ?c1 ?c2 ?c3 ?c4; (case k2 => assumption); (case kg => assumption); (case hgs => assumption); (case Nh => assumption); (case k3 => assumption); (case kd => exact rfl); (case k4 => assumption); (case k5 => ktr_room); (case k6 => exact BindsTo.of_eq rfl); (case k7 => exact locs rfl); (case c1 => exact rfl); (case c2 => exact rfl); (case c3 => exact rfl); (case c4 => decide)); k_whole; intro L' h' F' N' l0'; (try k_lt l0'); (try dsimp only); (try k_fold)))
local macro_rules | `(tactic| walk_at "m_enterG") => `(tactic| (
  k_dflt (refine' enterG ?k1 ?k2 ?kg ?hgs ?Nh ?k3 ?k4 ?k5 ?k6 ?k7 ?_ ?c1 ?c2 ?c3 ?c4; (case k1 => assumption); (case k2 => assumption); (case kg => assumption); (case hgs => assumption); (case Nh => assumption); (case k3 => k_is); (case k4 => k_is); (case k5 => ktr_room); (case k6 => first | exact BindsTo.of_eq rfl | exact binds_K (by k_in) rfl (by k_is) rfl rfl rfl | exact kp_binds (by k_in) (fun _ => by rfl)); (case k7 => exact locs rfl); (case c1 => exact rfl); (case c2 => exact rfl); (case c3 => exact rfl); (case c4 => decide)); k_whole; intro L' h' F' N' l0'; (try k_lt l0'); (try dsimp only); (try k_fold)))
local macro_rules | `(tactic| walk_at "m_enterCG") => `(tactic| (
  k_dflt (refine' enterCG ?k1 ?k2 ?kg ?hgs ?Nh ?k3 ?k4 ?k5 ?k6 ?k7 ?k8 ?_ ?c1 ?c2 ?c3; (case k1 => assumption); (case k2 => assumption); (case kg => assumption); (case hgs => assumption); (case Nh => assumption); (case k3 => k_is); (case k4 => k_is); (case k5 => ktr_room); (case k6 => first | exact BindsTo.of_eq rfl | exact binds_K (by k_in) rfl (by k_is) rfl rfl rfl | exact kp_binds (by k_in) (fun _ => by rfl)); (case k7 => exact kindsX (by rfl)); (case k8 => decide +kernel); (case c1 => exact rfl); (case c2 => exact rfl); (case c3 => exact rfl)); k_whole; intro L' h' tk' cells' F' N' Y' l0'; (try k_lt l0'); k_cells Y'; (try simp only [List.cons_append, List.nil_append] at N'); (try dsimp only); (try k_fold)))
/-- some addresses are hidden from a heap: the rest as a base -/
theorem hide_base {h₀ h : Heap} {as : List Addr} (k : Keeps h₀ h) (hn : ∀ a ∈ as, h₀.get? a = none) : Keeps h₀ (hideAll h as) := fun b o e => hideAll_get _ (k b o e) fun hm => by rw [hn b hm] at e; cases e
theorem hide_keeps {h : Heap} {as : List Addr} : Keeps (hideAll h as) h := fun _ _ e => of_hideAll _ e
theorem hide_le {h : Heap} {as : List Addr} : (hideAll h as).objs.size ≤ h.objs.size := Nat.le_of_eq (hideAll_size _ _)
theorem anew_F10 : True := by
  w_top off
  k_with_none
  trivial
set_option maxHeartbeats 1000000
theorem fill10 : PySem.Challenge.rw_pa0046_01.row.prog = PySem.Challenge.rw_pa0046_01.row.prog ∧ Mine.pre.heap_1 = Mine.pre.heap_1 := by
  k_fill
  exact ⟨rfl, rfl⟩
local macro_rules | `(tactic| walk_at "m_enterC") => `(tactic| (
  k_dflt (refine' enterC ?k1 ?k2 ?k3 ?k4 ?k5 ?k6 ?k7 ?k8 ?_ ?c1 ?c2 ?c3; (case k1 => assumption); (case k2 => assumption); (case k3 => k_is); (case k4 => k_is); (case k5 => ktr_room); (case k6 => first | exact BindsTo.of_eq rfl | exact binds_K (by k_in) rfl (by k_is) rfl rfl rfl | exact kp_binds (by k_in) (fun _ => by rfl)); (case k7 => exact kindsX (by rfl)); (case k8 => decide +kernel); (case c1 => exact rfl); (case c2 => exact rfl); (case c3 => exact rfl)); k_whole; intro L' h' tk' cells' F' N' Y'; k_cells Y'; (try simp only [List.cons_append, List.nil_append] at N'); (try dsimp only); (try k_fold)))
def ledG (ms : List Int) (l : List Int) (f : Int) : List Int := if ms.getD f.toNat 0 ≥ 0 then l ++ [ms.getD f.toNat 0] else l
def ledF (figs ms : List Int) : List Int := figs.foldl (ledG ms) []
def waysF (figs : List Int) : List (List Int) → List (List Int)
  | [] => []
  | ms :: r => if (ledF figs ms).length % 4 = 0 then ledF figs ms :: waysF figs r else []
/-- kept lists of ints -/
inductive LedsAre : List (Addr × Obj) → List (List Int) → Prop
  | nil : LedsAre [] []
  | cons {a : Addr} {ys : List Value} {ns : List Int} {l : List (Addr × Obj)} {r : List (List Int)} (h : IntsAre ys ns) (t : LedsAre l r) : LedsAre ((a, LCg.lst ys) :: l) (ns :: r)
theorem LedsAre.snoc {a : Addr} {ys : List Value} {ns : List Int} (hy : IntsAre ys ns) : ∀ {l : List (Addr × Obj)} {r : List (List Int)}, LedsAre l r → LedsAre (l ++ [(a, LCg.lst ys)]) (r ++ [ns])
  | _, _, .nil => .cons hy .nil
  | _, _, .cons h t => .cons h (t.snoc hy)
theorem fr_say {h₀ h : Heap} {L : Addr} {m : Str → Option Value} {x : Str} {v : Value} (F : Fr h₀ L h m) (e : m x = some v) : Fr h₀ L h (fun y => if y = x then some v else m y) := by
  have : m = (fun y => if y = x then some v else m y) := by
    funext y
    by_cases q : y = x
    · rw [if_pos q, q, e]
    · rw [if_neg q]
  exact this ▸ F
theorem news_swap {h₀ h : Heap} {L : Addr} {x y : Addr × Obj} (N : News h₀ L h [x, y]) : News h₀ L h [y, x] := fun p hp => N p (by
  rcases List.mem_cons.mp hp with rfl | hp
  · exact .tail _ (.head _)
  · rw [List.mem_singleton.mp hp]; exact .head _)
abbrev frOf {h₀ h : Heap} {L : Addr} {m : Str → Option Value} (_ : Fr h₀ L h m) : Addr := L
theorem off1_mem {D : Addr} {l : List (Addr × Obj)} (x : LCg.Off1 D l) : ∀ p ∈ l, p.1 ≠ D := by
  induction l with
  | nil => exact fun _ h => nomatch h
  | cons q r ih =>
    intro p h
    rcases List.mem_cons.mp h with e | h
    · rw [e]; exact x.1
    · exact ih x.2 p h
theorem waysF_at {figs ms : List Int} {mss : List (List Int)} {i : Nat} (h : mss[i]? = some ms) : waysF figs (mss.drop i) = if (ledF figs ms).length % 4 = 0 then ledF figs ms :: waysF figs (mss.drop (i + 1)) else [] := by
  obtain ⟨hi, e⟩ := List.getElem?_eq_some_iff.mp h
  rw [List.drop_eq_getElem_cons hi, e, waysF]
abbrev refsOf (lds : List (Addr × Obj)) : List Value := lds.map fun p => Value.ref p.1
/-- behind i turns of the loop over the maps -/
def WaysJ (figs : List Int) (mss : List (List Int)) (a b wy : Addr) (i : Nat) (m : Str → Option Value) (news : List (Addr × Obj)) : Prop :=
  m "figures" = some (.ref a) ∧ m "maps" = some (.ref b) ∧ m "ways" = some (.ref wy) ∧ ∃ k lds pre, news = (wy, W.listOf (refsOf lds).toArray k) :: lds ∧ LedsAre lds pre ∧ lds.length = i ∧ OwnOff lds [wy] ∧ waysF figs mss = pre ++ waysF figs (mss.drop i)
section
variable {w : World} {mean : ExcName → Option Value} {mg mb : Str → Option Value} {dp un : Nat} {gd : Option (List Code)} {fr : Option (List Env)} {s : Shared} {Q E : Value → Shared → Prop}
theorem ways_c {a b : Addr} {vs : List Value} {figs : List Int} {refs : List Addr} {mss : List (List Int)} (X : (pre.heap_1 w.params).In s.heap) (T : Top topProg LS mean mg mb s.heap) (hdp : dp + 1 < recursionLimit) (hun : un + 8 < cLine)
   (ha : s.heap.IsList a vs.toArray) (hv : IntsAre vs figs) (hl : figs.length < 100) (hb : s.heap.IsList b (refs.map Value.ref).toArray) (hlm : refs.length < 100) (hlm2 : refs.length = mss.length)
   (hms : ∀ (i : Nat) r ms, refs[i]? = some r → mss[i]? = some ms → ∃ us, s.heap.IsList r us.toArray ∧ IntsAre us ms ∧ ms.length = 64)
   (hin : ∀ f ∈ figs, 0 ≤ f ∧ f < 64)
   (hret : ∀ r k lds h' tk', Keeps s.heap h' → s.heap.get? r = none → h'.get? r = some (W.listOf (refsOf lds).toArray k) → LedsAre lds (waysF figs mss) → (∀ p ∈ lds, h'.get? p.1 = some p.2 ∧ s.heap.get? p.1 = none ∧ p.1 ≠ r) → Q (.ref r) { s with heap := h', toks := tk' }) :
   wpAny (model PySem.Challenge.rw_pa0046_01.row.prog w) (Ar dp un gd fr) (call (.ref 172) [Value.ref a, Value.ref b]) Q E s := by
  walk_at "m_enterC"
  repeat ((fail_if_success (with_reducible show wpAny _ _ (exec (Stmt.For _ _ _ _ _) _) _ _ _)); first | walk1 | (dsimp only; walk1))
  rename News _ _ _ _ => N9
  rename Fr _ _ _ _ => F9
  obtain ⟨L9, hL9⟩ : ∃ L, L = frOf F9 := ⟨_, rfl⟩
  obtain ⟨wy, hwy⟩ : ∃ L, L = adr1 N9 := ⟨_, rfl⟩
  dsimp only [frOf, adr1] at hL9 hwy
  subst hL9 hwy
  have hlt9 : L9 + 1 < wy := by assumption
  refine For_cell (c := L9 + 1) (a := b) (vs := refs.map Value.ref) (news := [(wy, W.listOf #[] 0)]) rfl rfl rfl rfl hb F9 (news_swap N9) (by assumption) ?hcn (WaysJ figs mss a b wy) ?h0 ?it ?step ?done
  case hcn =>
    intro p hp
    rw [List.mem_singleton.mp hp]
    exact (Nat.ne_of_lt hlt9).symm
  case h0 => exact ⟨rfl, rfl, rfl, 0, [], [], rfl, .nil, rfl, (fun _ h => nomatch h), rfl⟩
  case it =>
    intro Q' hq
    exact nameX_L F9 rfl hq
  case done =>
    rintro h' tk m' oc' news' F N ⟨e1, e2, e3, k, lds, pre, rfl, hL, hlen, hoff, hw⟩
    have F1 := fr_say F e3
    clear F9 N9 F
    walk_at "m_steps"
    refine hret wy k lds _ _ F1.keep (N _ (.tail _ (.head _))).2.2 (N _ (.tail _ (.head _))).1 ?_ ?_
    · rw [hw, List.drop_of_length_le (by rw [List.length_map]; omega), waysF, List.append_nil]
      exact hL
    · intro p hp
      have := N p (.tail _ (.tail _ hp))
      exact ⟨this.1, this.2.2, hoff p hp wy (.head _)⟩
  case step =>
    rintro i v m₁ oc₁ news₁ I oI h tk hi hv' hoc ⟨e1, e2, e3, k, lds, pre, rfl, hL, hlen, hoff, hw⟩ hne hcI F N
    have F1 := fr_say (x := "figures") (v := .ref a) (fr_say F e3) (by rw [if_neg (by decide)]; exact e1)
    clear F9 N9 F
    obtain ⟨r9, hr9, hvr⟩ : ∃ r, refs[i]? = some r ∧ v = .ref r := by
      rw [List.getElem?_map] at hv'
      cases hq : refs[i]? with
      | none => rw [hq] at hv'; cases hv'
      | some r => rw [hq] at hv'; exact ⟨r, rfl, (Option.some.inj hv').symm⟩
    subst hvr
    obtain ⟨ms, hms9⟩ : ∃ ms, mss[i]? = some ms := ⟨_, List.getElem?_eq_getElem (by rw [List.length_map] at hi; omega)⟩
    obtain ⟨us, hus, hui, hul⟩ := hms i r9 ms hr9 hms9
    have hWy : @Ne Nat wy (L9 + 1) := (hne _ (.head _)).1
    have hWI : @Ne Nat wy I := (hne _ (.head _)).2
    have hO : OwnOff lds [L9 + 1, I, wy] := fun p hp b hb => by
      have h1 := hne p (.tail _ hp)
      rcases List.mem_cons.mp hb with rfl | hb
      · exact h1.1
      · rcases List.mem_cons.mp hb with rfl | hb
        · exact h1.2
        · exact hoff p hp b hb
    clear hne hoff
    repeat ((fail_if_success (with_reducible show wpAny _ _ (exec _ _) _ _ _)); first | walk1 | (dsimp only; walk1))
    k_dflt (refine LCt.Assign_ListComp_T (F₀ := F1) (by rfl) (by with_unfolding_all rfl) (by with_unfolding_all rfl) (by decide) (by rfl) (by decide) (by rfl) (by rfl) (by rfl) ?_)
    walk1
    refine LCt.CompSrcT.base (by rfl) F1 N ha (by rw [List.size_toArray, hv.length, PySem.sizeLine_eq]; omega) ?_
    intro g'
    refine kci_list (ledG ms) hv ?turn ?fin ?grows
    case grows =>
      intro l f
      unfold ledG
      split
      · rw [List.length_append, List.length_singleton]; exact Nat.le_refl _
      · exact Nat.le_succ _
    case turn =>
      intro f t I2 oI2 C oC D m₂ ys l h₂ tk₂ E' hf hys hC hx F2 N2 off ne mk
      clear F1 N
      have hf64 := hin f hf
      have off0 := off
      simp only [LCg.Off3, and_true] at off
      repeat' ((fail_if_success (with_reducible show LCg.CompEnd _ _ _ _ _ _ _ _ _ _ _ _ _ _)); first | walk1 | (dsimp only; walk1) | (k_unfold; (try dsimp only)))
      all_goals (refine LCg.CompEnd.intro (by assumption) (by assumption) ((L9 + 1, oc₁) :: (I, oI) :: (wy, W.listOf (refsOf lds).toArray k) :: lds) (fun _ hp => hp) off0 (.inl ha) ?_)
      · refine kci_el ?_ rfl rfl
        unfold ledG
        rw [if_pos (by assumption)]
      · refine kci_no ?_ rfl
        unfold ledG
        rw [if_neg (by assumption)]
    case fin =>
      intro ys hys hyl
      unfold LCg.FinA
      intro D h₂ tk₂ F2 N2 off
      have hys' : IntsAre ys (ledF figs ms) := hys
      have hylen := hys'.length
      have hyb : ys.length < 100 := by rw [List.size_toArray, hv.length] at hyl; omega
      have hld : lds.length < 100 := by rw [hlen, List.length_map] at *; omega
      have hDc : @Ne Nat (L9 + 1) D := off.1
      have hDI : @Ne Nat I D := off.2.1
      have hDw : @Ne Nat wy D := off.2.2.1
      have hO2 : OwnOff lds [L9 + 1, I, wy, D] := fun p hp b hb => by
        rcases List.mem_cons.mp hb with rfl | hb
        · exact hO p hp _ (.head _)
        · rcases List.mem_cons.mp hb with rfl | hb
          · exact hO p hp _ (.tail _ (.head _))
          · rcases List.mem_cons.mp hb with rfl | hb
            · exact hO p hp _ (.tail _ (.tail _ (.head _)))
            · rw [List.mem_singleton.mp hb]; exact off1_mem off.2.2.2 p hp
      clear hO off hys hyl F1 N
      dsimp only at F2 N2 ⊢
      repeat' ((fail_if_success (with_reducible show CellPost _ _ _ _ _ _ _ _ _ _)); first | walk1 | (dsimp only; walk1) | (k_unfold; (try dsimp only)))
      · have hN : ¬ (ledF figs ms).length % 4 = 0 := by
          intro e
          have q : ((ledF figs ms).length : Int).fmod 4 ≠ 0 := by assumption
          rw [Int.fmod_eq_emod_of_nonneg _ (by decide)] at q
          omega
        show Q (Value.ref wy) _
        refine hret wy k lds _ _ F2.keep (N2 _ (.tail _ (.tail _ (.tail _ (.head _))))).2.2 (N2 _ (.tail _ (.tail _ (.tail _ (.head _))))).1 ?_ ?_
        · rw [hw, waysF_at hms9, if_neg hN, List.append_nil]
          exact hL
        · intro p hp
          have := N2 p (.tail _ (.tail _ (.tail _ (.tail _ hp))))
          exact ⟨this.1, this.2.2, hO2 p hp wy (.tail _ (.tail _ (.head _)))⟩
      · have hN : (ledF figs ms).length % 4 = 0 := by
          have q : ((ledF figs ms).length : Int).fmod 4 = 0 := by assumption
          rw [Int.fmod_eq_emod_of_nonneg _ (by decide)] at q
          omega
        skip
        rename News _ _ _ _ => N3
        rename Fr _ _ _ _ => F3
        have er : (refsOf lds).toArray.push (Value.ref D) = (refsOf (lds ++ [(D, LCg.lst ys)])).toArray := by
          unfold refsOf
          rw [List.push_toArray, List.map_append]; rfl
        rw [er] at N3
        refine ⟨_, _, _, oc₁, _, (wy, W.listOf (refsOf (lds ++ [(D, LCg.lst ys)])).toArray (k + 1)) :: (lds ++ [(D, LCg.lst ys)]), rfl, F3, fun p hp => N3 p ?_, hoc, ?_, ?_⟩
        · rcases List.mem_cons.mp hp with rfl | hp
          · exact .tail _ (.head _)
          · rcases List.mem_cons.mp hp with rfl | hp
            · exact .tail _ (.tail _ (.head _))
            · rcases List.mem_cons.mp hp with rfl | hp
              · exact .tail _ (.tail _ (.tail _ (.head _)))
              · rcases List.mem_append.mp hp with hp | hp
                · exact .tail _ (.tail _ (.tail _ (.tail _ hp)))
                · rw [List.mem_singleton.mp hp]; exact .head _
        · intro p hp
          rcases List.mem_cons.mp hp with rfl | hp
          · exact ⟨hWy, hWI⟩
          · rcases List.mem_append.mp hp with hp | hp
            · exact ⟨hO2 p hp _ (.head _), hO2 p hp _ (.tail _ (.head _))⟩
            · rw [List.mem_singleton.mp hp]; exact ⟨Ne.symm hDc, Ne.symm hDI⟩
        · refine ⟨rfl, ?_, rfl, k + 1, _, pre ++ [ledF figs ms], rfl, hL.snoc hys', by rw [List.length_append, List.length_singleton, hlen], ?_, ?_⟩
          · exact e2
          · intro p hp b hb
            rw [List.mem_singleton.mp hb]
            rcases List.mem_append.mp hp with hp | hp
            · exact hO2 p hp wy (.tail _ (.tail _ (.head _)))
            · rw [List.mem_singleton.mp hp]; exact Ne.symm hDw
          · rw [hw, waysF_at hms9, if_pos hN, List.append_assoc]; rfl
end
theorem anew_F11 : True := by
  w_top off
  k_with_none
  trivial
set_option maxHeartbeats 1000000
theorem fill11 : PySem.Challenge.rw_pa0046_01.row.prog = PySem.Challenge.rw_pa0046_01.row.prog ∧ Mine.pre.heap_1 = Mine.pre.heap_1 := by
  k_fill
  exact ⟨rfl, rfl⟩
section
variable {prog : Program} {w : World} {A : Around} {E : Value → Shared → Prop} {s : Shared} {h₀ : Heap} {L d : Addr} {m : Str → Option Value} {news : List (Addr × Obj)} {items : Array Value}
/-- iter of a list below -/
theorem call_iter_list {Q : Value → Shared → Prop} (F : Fr h₀ L s.heap m) (N : News h₀ L s.heap news) (hl : h₀.IsList d items)
    (h : ∀ (I : Addr) h', Fr h₀ L h' m → News h₀ L h' ((I, ({ cls := .type "list_iterator", data := .fields #[.ref d, .int 0 0] } : Obj)) :: news) → (∀ p ∈ news, p.1 < I) → d ≠ I → L ≠ I → Q (.ref I) { s with heap := h' }) :
    wpAny (model prog w) A (call (.builtin "iter") [.ref d]) Q E s := by
  have hl' : s.heap.IsList d items := let ⟨o, e, r⟩ := hl; ⟨o, F.keep _ _ e, r⟩
  refine call_function_entry (by decide +kernel) (by decide +kernel) kdk_entry_iter (kdk_args_iter _) ?_
  unfold Builtin.«iter»
  refine wpAny_bind (m := someArgs "iter" 1 2 _) (wpAny_of_eq (a := [Value.ref d]) (by first | rfl | kernel_rfl!) ?_)
  show wpAny _ _ (pyIter (.ref d) >>= _) _ _ _
  refine wpAny_bind (wpAny_pyIter_list hl' ?_)
  refine wpAny_pure ⟨_, rfl, h _ _ (F.push _) (News.push F N _ rfl) (fun q hq => Heap.lt_size (N q hq).1) ?_ (Nat.ne_of_lt F.ns.lt)⟩
  obtain ⟨o, e, _⟩ := hl'
  exact Nat.ne_of_lt (Heap.lt_size e)
end
local macro_rules | `(tactic| walk_at "call builtin:iter") => `(tactic| (k_here; (with_reducible show wpAny _ _ (call (Value.builtin "iter") [Value.ref _]) _ _ _); k_dflt (refine' call_iter_list ?F ?N ?l ?_; (case F => k_asm); (case N => k_asm); (case l => k_asm)); intro I' h' F' N' l1 l2 l3; (try k_lt l1)))
theorem listBut {h g : Heap} {tr a : Addr} {otr : Obj} {its : Array Value} (kg : ∀ b o, (∀ q ∈ [(tr, otr)], b ≠ q.1) → h.get? b = some o → g.get? b = some o) (ha : h.IsList a its) (hne : a ≠ tr) : g.IsList a its := by
  obtain ⟨o, e, r⟩ := ha
  exact ⟨o, kg _ _ (fun q hq => by rw [List.mem_singleton.mp hq]; exact hne) e, r⟩
local macro_rules | `(tactic| walk_at "compareOp Is") => `(tactic| (k_here; (with_reducible show wpAny _ _ (compareOp CmpOp.Is (Value.bytes _ _) (Value.ref _)) _ _ _); refine wpAny_is_other (by rfl) (by intro x; cases x) ?_))
abbrev frAt {h₀ h : Heap} {L : Addr} {m : Str → Option Value} (_ : Fr h₀ L h m) : Addr := L
abbrev baseOf {h₀ h : Heap} {L : Addr} {m : Str → Option Value} (_ : Fr h₀ L h m) : Heap := h₀
theorem fr_say2 {h₀ h : Heap} {L : Addr} {m : Str → Option Value} {x : Str} {v : Value} (F : Fr h₀ L h m) (e : m x = some v) : Fr h₀ L h (fun y => if y = x then some v else m y) := by
  have : m = (fun y => if y = x then some v else m y) := by
    funext y
    by_cases q : y = x
    · rw [if_pos q, q, e]
    · rw [if_neg q]
  exact this ▸ F
def KeepsOff (tr : Addr) (h h' : Heap) : Prop := ∀ b o, b ≠ tr → h.get? b = some o → h'.get? b = some o
theorem frOff {h₀ h h' : Heap} {L tr : Addr} {m : Str → Option Value} (F : Fr h₀ L h m) (k : KeepsOff tr h h') (ht : tr ≠ L) (h0 : h₀.get? tr = none) : Fr h₀ L h' m :=
  ⟨F.ns.at' fun o e => k _ o (Ne.symm ht) e, fun b o e => k b o (fun q => by rw [q, h0] at e; cases e) (F.keep b o e), F.above⟩
section
variable {w : World} {mean : ExcName → Option Value} {mg mb : Str → Option Value} {dp un : Nat} {gd : Option (List Code)} {fr : Option (List Env)} {s : Shared} {Q E : Value → Shared → Prop} {h₀ : Heap} {L : Addr} {m : Str → Option Value}
theorem reduce_c {f a tr : Addr} {otr : Obj} {items : List Value} {b0 : Array UInt8} {tt : Tok} (Inv : Nat → Value → Obj → Prop) (X : (pre.heap_1 w.params).In h₀) (T : Top topProg LS mean mg mb h₀) (hdp : dp + 1 < recursionLimit) (hun : un + 8 < cLine)
   (F : Fr h₀ L s.heap m) (N : News h₀ L s.heap [(tr, otr)])
   (ha : s.heap.IsList a items.toArray) (hatr : a ≠ tr) (hfn : FnAt f s.heap) (hftr : f ≠ tr) (h0 : Inv 0 (.bytes b0 tt) otr)
   (stepc : ∀ (i : Nat) (v x : Value) (h : Heap) (o : Obj) (tk dp' un' : Nat) (frx : Option (List Env)) (Q' E' : Value → Shared → Prop), items[i]? = some x → Inv i v o → h.get? tr = some o → KeepsOff tr s.heap h → dp' ≤ dp + 1 → un' ≤ un + 8 →
     (∀ v' o' h' tk', Inv (i + 1) v' o' → h'.get? tr = some o' → KeepsOff tr h h' → Q' v' { s with heap := h', toks := tk' }) → wpAny (model PySem.Challenge.rw_pa0046_01.row.prog w) (Ar dp' un' gd frx) (call (.ref f) [v, x]) Q' E' { s with heap := h, toks := tk })
   (hret : ∀ v o h' tk', Inv items.length v o → h'.get? tr = some o → KeepsOff tr s.heap h' → Q v { s with heap := h', toks := tk' }) :
   wpAny (model PySem.Challenge.rw_pa0046_01.row.prog w) (Ar dp un gd fr) (call (.ref 111) [Value.ref f, Value.ref a, Value.bytes b0 tt]) Q E s := by
  walk_at "m_enterN"
  clear F N
  rename ∀ (b : Addr) (o : Obj), _ → _ → _ => kg
  have hag := listBut kg ha hatr
  walk_at "m_to"
  rename News _ _ _ _ => N9
  rename Fr _ _ _ _ => F9
  have hit : Heap.IsListIter _ (adr1 N9) a 0 := ⟨_, (N9 _ (.head _)).1, rfl, rfl⟩
  obtain ⟨I, hI⟩ : ∃ I, I = adr1 N9 := ⟨_, rfl⟩
  dsimp only [adr1] at hI hit
  subst hI
  obtain ⟨L9, hL9⟩ : ∃ L, L = frAt F9 := ⟨_, rfl⟩
  obtain ⟨g9, hg9⟩ : ∃ L, L = baseOf F9 := ⟨_, rfl⟩
  dsimp only [frAt, baseOf] at hL9 hg9
  subst hL9 hg9
  have haI : a ≠ I := by assumption
  have hLI := (N9 _ (.head _)).2.1
  have htI : tr < I := by assumption
  have hI0 := (N9 _ (.head _)).2.2
  have htr0 := (N9 (tr, otr) (.tail _ (.head _))).2.2
  have htL := (N9 (tr, otr) (.tail _ (.head _))).2.1
  dsimp only at hLI hI0 htr0 htL
  refine wpAny_pyIter_listiter hit ?_
  refine ⟨I, [I, a], [I], items.toArray.size, _, _, _, [(tr, otr)], (fun i m₁ news₁ => m₁ "function" = some (.ref f) ∧ ∃ v o, m₁ "value" = some v ∧ Inv i v o ∧ news₁ = [(tr, o)]), rfl, Walks.list rfl I a haI items.toArray, ?_, ?_, ?_, ⟨hit, ?_⟩, F9, fun p hp => N9 p (.tail _ hp), ⟨rfl, _, _, rfl, h0, rfl⟩, ?_, ?_⟩
  · intro hm
    rcases List.mem_cons.mp hm with e | hm
    · exact hLI e.symm
    · have e : L9 = a := List.mem_singleton.mp hm
      obtain ⟨o, eo, _⟩ := hag
      have := Heap.lt_size eo
      have h2 := F9.above
      rw [← e] at this
      exact absurd this (Nat.not_lt_of_le h2)
  · intro b hb
    rw [List.mem_singleton.mp hb]; exact hI0
  · intro p hp hb
    rw [List.mem_singleton.mp hp] at hb
    have e : tr = I := List.mem_singleton.mp hb
    exact absurd htI (by rw [e]; exact Nat.lt_irrefl _)
  · obtain ⟨o, e, r⟩ := hag
    exact ⟨o, F9.keep _ _ e, r⟩
  · rintro i x m₁ news₁ s₁ own ⟨h, tk, rfl⟩ hi hP ⟨e1, v, o, e2, hInv, rfl⟩ _ hown hown2 hown3 hst F N
    have hx : items[i]? = some x := by simpa using hP
    have F1 := fr_say2 (x := "function") (v := .ref f) (fr_say2 (x := "value") (v := v) F (by rw [if_neg (by decide)]; exact e2)) (by rw [if_neg (by decide), if_neg (by decide)]; exact e1)
    clear F9 N9 F
    have hfn1 : FnAt f h := by
      obtain ⟨oc, od, fd, sl, e⟩ := hfn
      exact ⟨oc, od, fd, sl, F1.keep _ _ (kg _ _ (fun q hq => by rw [List.mem_singleton.mp hq]; exact hftr) e)⟩
    have htrh : h.get? tr = some o := (N (tr, o) (List.mem_append_right _ (.head _))).1
    have hK1 : KeepsOff tr s.heap h := fun b ob hb e => F1.keep _ _ (kg _ _ (fun q hq => by rw [List.mem_singleton.mp hq]; exact hb) e)
    walk1
    walk1
    walk1
    walk1
    refine callWith_F hfn1 ?_
    repeat' ((fail_if_success (with_reducible show And _ _)); first | walk1 | (dsimp only; walk1))
    refine ⟨hfn1, ?_⟩
    (try dsimp only [List.nil_append, List.cons_append])
    refine stepc i v x h o _ _ _ _ _ _ hx hInv htrh hK1 (Nat.le_refl _) ?_ ?_
    · show un + 3 ≤ un + 8
      omega
    · intro v' o' h' tk' hInv' htr' hK'
      have hIh : ∀ q ∈ own, h'.get? q.1 = some q.2 := fun q hq => hK' _ _ (fun e => by
        rcases List.mem_cons.mp (hown q hq) with e2 | e2
        · exact absurd htI (by rw [← e, e2]; exact Nat.lt_irrefl _)
        · exact hatr ((List.mem_singleton.mp e2).symm.trans e)) (hown2 q hq)
      have F2 := frOff F1 hK' htL htr0
      have N2 : News g9 L9 h' (own ++ [(tr, o')]) := fun q hq => by
        rcases List.mem_append.mp hq with hq | hq
        · exact ⟨hIh q hq, (N q (List.mem_append_left _ hq)).2⟩
        · rw [List.mem_singleton.mp hq]; exact ⟨htr', htL, htr0⟩
      clear N F1
      refine storeX_L F2 N2 (fun h3 F3 N3 => wpAny_execs_nil ?_)
      refine .next (.intro F3 N3 (fun p hp hb => ?_) ⟨rfl, v', o', rfl, hInv', rfl⟩)
      rw [List.mem_singleton.mp hp] at hb
      have e : tr = I := List.mem_singleton.mp hb
      exact absurd htI (by rw [e]; exact Nat.lt_irrefl _)
  · rintro h' tk m' news' F N _ ⟨e1, v, o, e2, hInv, rfl⟩
    have F1 := fr_say2 F e2
    clear F F9 N9
    (try k_unfold)
    walk_at "m_steps"
    exact hret v o _ _ (by simpa using hInv) (N (tr, o) (.head _)).1 (fun b ob hb e => F1.keep _ _ (kg _ _ (fun q hq => by rw [List.mem_singleton.mp hq]; exact hb) e))
end
theorem anew_F9 : True := by
  w_top off
  k_with_none
  trivial
set_option maxHeartbeats 1000000
theorem fill9 : PySem.Challenge.rw_pa0046_01.row.prog = PySem.Challenge.rw_pa0046_01.row.prog ∧ Mine.pre.heap_1 = Mine.pre.heap_1 := by
  k_fill
  exact ⟨rfl, rfl⟩
local macro_rules | `(tactic| walk_at "m_toW") => `(tactic| repeat ((fail_if_success (with_reducible show wpAny _ _ (exec (Stmt.While _ _ _ _) _) _ _ _)); first | walk1 | (dsimp only; walk1)))
def uStep (st : List Int × List Int) (x : Int) : List Int × List Int := if x ∈ st.2 then (st.1, st.2.erase x) else (st.1 ++ [x], st.2)
abbrev USt := ((List Value × List Int × Nat) × (List Value × List Int × Nat) × (List Value × List Int × Nat)) × List (Addr × Obj)
abbrev objOf {h₀ : Heap} {L : Addr} {m : Str → Option Value} {oL : Obj} (_ : TI.Caller h₀ L m oL) : Obj := oL
theorem own_up {rest fr fr' : List (Addr × Obj)} {as : List Addr} (h : OwnOff (rest ++ fr) as) (SU : TI.SameUp fr fr') : OwnOff (rest ++ fr') as := by
  intro p hp b hb
  rcases List.mem_append.mp hp with hp | hp
  · exact h p (List.mem_append_left _ hp) b hb
  · obtain ⟨q, hq, e⟩ := SU.fwd p hp
    rw [e]
    exact h q (List.mem_append_right _ hq) b hb
local macro_rules | `(tactic| walk_at "m_enterT") => `(tactic| (
  k_dflt (refine' enterT ?k1 ?k2 ?kF ?kN ?kFs ?kck ?k3 ?k4 ?k5 ?k6 ?k7 ?_ ?c1 ?c2 ?c3 ?c4; (case k1 => assumption); (case k2 => assumption); (case kF => assumption); (case kN => assumption); (case kFs => assumption); (case kck => assumption); (case k3 => k_is); (case k4 => k_is); (case k5 => ktr_room); (case k6 => first | exact BindsTo.of_eq rfl | exact binds_K (by k_in) rfl (by k_is) rfl rfl rfl | exact kp_binds (by k_in) (fun _ => by rfl)); (case k7 => exact locs rfl); (case c1 => exact rfl); (case c2 => exact rfl); (case c3 => exact rfl); (case c4 => decide)); k_whole; intro L' h' oL' C' Fs' F' N'; (try dsimp only); (try k_fold)))
def uRes (ns ms : List Int) : List Int × List Int := ns.reverse.foldl uStep ([], ms)
theorem getLast_split {l : List Int} (h : 0 < l.length) : l = l.dropLast ++ [l.getLastD 0] := by
  cases l with
  | nil => exact absurd h (Nat.lt_irrefl 0)
  | cons x r =>
    rw [List.getLastD_eq_getLast?, List.getLast?_eq_getLast (by simp)]
    exact (List.dropLast_concat_getLast (by simp)).symm
theorem u_turn {ns ns1 ms : List Int} {st st' : List Int × List Int} (hl : 0 < ns1.length) (h : ∃ done, ns = ns1 ++ done ∧ st = done.reverse.foldl uStep ([], ms)) (e : st' = uStep st (ns1.getLastD 0)) :
    ∃ done, ns = ns1.dropLast ++ done ∧ st' = done.reverse.foldl uStep ([], ms) := by
  obtain ⟨done, h1, h2⟩ := h
  refine ⟨ns1.getLastD 0 :: done, ?_, ?_⟩
  · rw [h1]
    conv => lhs; rw [getLast_split hl]
    simp
  · rw [e, h2]; simp
theorem u_len {done ms : List Int} {st : List Int × List Int} (e : st = done.foldl uStep ([], ms)) : st.1.length ≤ done.length ∧ st.2.length ≤ ms.length := by
  have key : ∀ (l : List Int) (st : List Int × List Int), (l.foldl uStep st).1.length ≤ st.1.length + l.length ∧ (l.foldl uStep st).2.length ≤ st.2.length := by
    intro l
    induction l with
    | nil => intro st; simp
    | cons x l ih =>
      intro st
      have := ih (uStep st x)
      rw [List.foldl_cons, List.length_cons]
      unfold uStep at this ⊢
      split at this
      · rename_i hx
        rw [if_pos hx]
        have h2 := List.length_erase_of_mem hx
        dsimp only at this ⊢
        omega
      · rename_i hx
        rw [if_neg hx]
        dsimp only at this ⊢
        simp only [List.length_append, List.length_cons, List.length_nil] at this
        omega
  have := key done ([], ms)
  rw [e]
  simpa using this
theorem ne_frame {h : Heap} {x L : Addr} {o oL : Obj} {sl : Array (Option Value)} {es : Array DictEntry} {ep : Nat} (h1 : h.get? x = some o) (hL : h.get? L = some { oL with slots := sl }) (hd : oL.data = .dict es ep) (hx : TI.notDict (x, o) = true) : x ≠ L := by
  rintro rfl
  rw [hL] at h1
  exact TI.notDict_ne hx (show o.data = .dict es ep by rw [← Option.some.inj h1]; exact hd)
theorem idx_ne {n x : Int} {ns : List Int} (e : ¬ n = x) : (n :: ns).idxOf x = ns.idxOf x + 1 := by
  rw [List.idxOf_cons]
  have : (n == x) = false := by simpa using e
  rw [this]; rfl
theorem ints_kf {vs : List Value} {ns : List Int} (h : IntsAre vs ns) : kf_ints vs = true := by
  induction h with
  | nil => rfl
  | cons n t r ih => exact ih
theorem isInt_int (k n : Int) (t : Tok) : isInt k (.int n t) = decide (n = k) := rfl
theorem ints_at {vs : List Value} {ns : List Int} {x : Int} (h : IntsAre vs ns) (hx : x ∈ ns) : kf_at x vs = some (ns.idxOf x) := by
  induction h with
  | nil => cases hx
  | cons n t r ih =>
    unfold kf_at
    rw [isInt_int]
    by_cases e : n = x
    · subst e; simp
    · rw [decide_eq_false e, idx_ne e]
      have := ih ((List.mem_cons.mp hx).resolve_left fun h => e h.symm)
      rw [this]; rfl
theorem ints_del {vs : List Value} {ns : List Int} {x : Int} (h : IntsAre vs ns) (hx : x ∈ ns) : ∃ q, ki_delL vs (ns.idxOf x) = some q ∧ IntsAre q (ns.erase x) ∧ q.length < vs.length := by
  induction h with
  | nil => cases hx
  | cons n t r ih =>
    by_cases e : n = x
    · subst e
      refine ⟨_, by rw [List.idxOf_cons_self]; rfl, ?_, by simp⟩
      rw [List.erase_cons_head]; exact r
    · obtain ⟨q, h1, h2, h3⟩ := ih ((List.mem_cons.mp hx).resolve_left fun h => e h.symm)
      refine ⟨.int n t :: q, ?_, ?_, by simpa using h3⟩
      · rw [idx_ne e]; unfold ki_delL; rw [h1]
      · rw [List.erase_cons_tail (by simpa using e)]; exact .cons n t h2
section
variable {prog : Program} {w : World} {A : Around} {E : Value → Shared → Prop} {s : Shared} {h₀ : Heap} {L D : Addr} {m : Str → Option Value} {news : List (Addr × Obj)} {vs : List Value} {ns : List Int} {n : Nat} {x : Int} {t : Tok} {Q : Value → Shared → Prop}
theorem rem_hit {p1 p2 : Addr × Obj} {tl : List (Addr × Obj)} (F : Fr h₀ L s.heap m) (N : News h₀ L s.heap (p1 :: p2 :: (D, W.listOf vs.toArray n) :: tl)) (hi : IntsAre vs ns) (hx : x ∈ ns) (hz : vs.length ≤ sizeLine) (h1 : p1.1 ≠ D) (h2 : p2.1 ≠ D) (h3 : ∀ p ∈ tl, p.1 ≠ D)
    (h : ∀ q h', Fr h₀ L h' m → News h₀ L h' (p1 :: p2 :: (D, W.listOf q.toArray (n + 1)) :: tl) → IntsAre q (ns.erase x) → q.length < vs.length → Q .none { s with heap := h' }) : wpAny (model prog w) A (call (.builtin "list.remove") [.ref D, .int x t]) Q E s := by
  obtain ⟨q, e1, e2, e3⟩ := ints_del hi hx
  refine kf_remove F N (ints_kf hi) (ints_at hi hx) e1 (Upd.tail h1 (Upd.tail h2 (Upd.head h3))) hz fun h' F' N' => h q h' F' N' e2 e3
theorem rem_miss (N : News h₀ L s.heap news) (hm : (D, W.listOf vs.toArray n) ∈ news) (hi : IntsAre vs ns) (hx : x ∉ ns) (hA : A.handled = none)
    (h : ∀ h' tk e, Heap.NewExc s.heap h' e "ValueError" → E (.ref e) { s with heap := h', toks := tk }) : wpAny (model prog w) A (call (.builtin "list.remove") [.ref D, .int x t]) Q E s := by
  refine call_meets PySem.F.slot_list_remove ⟨_, (N _ hm).1, rfl⟩ PySem.F.entry_list_remove (PySem.F.args_list_remove_2 _ _)
    (MeetsSeq.list_remove_none D vs.toArray n (.int x t) (isInt x) (fun y hy => kf_eq (ints_kf hi) y (by simpa using hy)) ?_) ⟨(N _ hm).1, hA, h⟩
  intro i hi'
  have hl : i < vs.length := by simpa using hi'
  have e : vs[i]? = some vs[i] := List.getElem?_eq_getElem hl
  obtain ⟨k, u, e1, e2⟩ := IntsAre.at hi i _ e
  show isInt x vs[i] = false
  rw [e1, isInt_int]
  exact decide_eq_false fun e3 => hx (e3 ▸ List.mem_of_getElem? e2)
end
section
variable {w : World} {mean : ExcName → Option Value} {mg mb : Str → Option Value} {dp un : Nat} {gd : Option (List Code)} {fr : Option (List Env)} {s : Shared} {Q E : Value → Shared → Prop}
theorem unord_c {h₀ : Heap} {L e a aF : Addr} {m : Str → Option Value} {es as : List Value} {ns ms : List Int} {k1 k2 : Nat} {rest frs : List (Addr × Obj)} {l : List Env} {cn : Str} {cs : Scope} {ccd : Value} {cl : List (Str × Addr)} (X : (pre.heap_1 w.params).In h₀) (T : Top topProg LS mean mg mb h₀) (hdp : dp + 1 < recursionLimit) (hun : un + 8 < cLine)
   (F : Fr h₀ L s.heap m) (N : News h₀ L s.heap (((e, W.listOf es.toArray k1) :: (a, W.listOf as.toArray k2) :: rest) ++ frs)) (Fs : TI.Frs l frs) (hck : cs.kind = .function) (hnd : rest.all TI.notDict = true) (hoff : OwnOff (rest ++ frs) [e, a]) (hofL : ∀ p ∈ frs, p.1 ≠ L)
   (hne : e ≠ a) (hes : IntsAre es ns) (has : IntsAre as ms) (hln : ns.length < 50) (hlm : ms.length < 50)
   (hret : ∀ r mi us vs2 k3 k4 k5 frs' h' tk', TI.SameUp frs frs' → Fr h₀ L h' m → News h₀ L h' (((r, { cls := Value.type "tuple", data := Data.seq #[Value.ref mi, Value.ref a] }) :: (mi, W.listOf us.toArray k3) :: (e, W.listOf #[] k4) :: (a, W.listOf vs2.toArray k5) :: rest) ++ frs') → IntsAre us (uRes ns ms).1 → IntsAre vs2 (uRes ns ms).2 → Q (.ref r) { s with heap := h', toks := tk' }) :
   wpAny (model PySem.Challenge.rw_pa0046_01.row.prog w) (Ar dp un gd (some (envX cn cs L aF ccd cl :: l))) (call (.ref 118) [Value.ref e, Value.ref a]) Q E s := by
  have hLe : L ≠ e := fun q => (N _ (List.mem_append_left _ (.head _))).2.1 q.symm
  have hLa : L ≠ a := fun q => (N _ (List.mem_append_left _ (.tail _ (.head _)))).2.1 q.symm
  have hrL : ∀ p ∈ rest, p.1 ≠ L := fun p hp => (N p (List.mem_append_left _ (.tail _ (.tail _ hp)))).2.1
  walk_at "m_enterT"
  clear F N
  rename TI.Caller _ _ _ _ => C'
  rename TI.Frs _ _ => Fs'
  rename News _ _ _ _ => N'
  rename Fr _ _ _ _ => F'
  obtain ⟨oL, hoL⟩ : ∃ x, x = objOf C' := ⟨_, rfl⟩
  dsimp only [objOf] at hoL
  subst hoL
  obtain ⟨fr0, hfr0⟩ : ∃ x, x = (L, oL) :: frs := ⟨_, rfl⟩
  rw [← hfr0] at Fs' N'
  have hoff0 : OwnOff (rest ++ fr0) [e, a] := by
    intro p hp b hb
    rcases List.mem_append.mp hp with hp | hp
    · exact hoff p (List.mem_append_left _ hp) b hb
    · rw [hfr0] at hp
      rcases List.mem_cons.mp hp with rfl | hp
      · simp only [List.mem_cons, List.not_mem_nil, or_false] at hb
        rcases hb with rfl | rfl
        · exact hLe
        · exact hLa
      · exact hoff p (List.mem_append_right _ hp) b hb
  have hne' : @Ne Nat e a := hne
  simp only [List.cons_append] at N'
  walk_at "m_toW"
  rename News _ _ _ _ => N9
  rename Fr _ _ _ _ => F9
  obtain ⟨l9, hl9⟩ : ∃ l, l = adr1 N9 := ⟨_, rfl⟩
  dsimp only [adr1] at hl9
  subst hl9
  have hlt : AllLt l9 ((e, W.listOf es.toArray k1) :: (a, W.listOf as.toArray k2) :: (rest ++ fr0)) := by
    simp only [AllLt] at *
    assumption
  have hof9 : OwnOff (rest ++ fr0) [l9, e, a] := by
    intro p hp b hb
    rcases List.mem_cons.mp hb with rfl | hb
    · exact Nat.ne_of_lt (ktn_ltOf hlt.2.2 p hp)
    · exact hoff0 p hp b hb
  have hl1 : @LT.lt Nat _ e l9 := hlt.1
  have hl2 : @LT.lt Nat _ a l9 := hlt.2.1
  clear hlt
  refine ksw_while (fun c : USt => (l9, W.listOf c.1.1.1.toArray c.1.1.2.2) :: (e, W.listOf c.1.2.1.1.toArray c.1.2.1.2.2) :: (a, W.listOf c.1.2.2.1.toArray c.1.2.2.2.2) :: (rest ++ c.2)) (fun _ => [])
    (fun c => IntsAre c.1.1.1 c.1.1.2.1 ∧ IntsAre c.1.2.1.1 c.1.2.1.2.1 ∧ IntsAre c.1.2.2.1 c.1.2.2.2.1 ∧ TI.SameUp fr0 c.2 ∧ TI.Frs (envX cn cs L aF ccd cl :: l) c.2) [Str.ofString "item"]
    (fun c => ∃ done, ns = c.1.2.1.2.1 ++ done ∧ (c.1.1.2.1, c.1.2.2.2.1) = done.reverse.foldl uStep ([], ms)) (fun c => c.1.2.1.2.1.length) ((([], [], 0), (es, ns, k1), (as, ms, k2)), fr0) F9 N9 ⟨.nil, hes, has, TI.SameUp.refl _, Fs'⟩ (List.forall_mem_nil _) ⟨[], by simp, rfl⟩ ?turn
  clear F9 N9
  rintro ⟨⟨⟨us, qs, k3⟩, ⟨vs1, ns1, k4⟩, ⟨vs2, ns2, k5⟩⟩, fr1⟩ u h tk ⟨hf1, hf2, hf3, hsu, hfs⟩ hInv F N
  dsimp only [kstB] at F N hf1 hf2 hf3 hInv hsu hfs
  have hof1 := own_up hof9 hsu
  (try k_fold)
  have kMark := kstMark
  have hb : vs1.length < 100 ∧ vs2.length < 100 ∧ us.length < 100 := by
    obtain ⟨dn, h1, h2⟩ := hInv
    have h3 := u_len h2
    have h4 := congrArg List.length h1
    have := hf1.length
    have := hf2.length
    have := hf3.length
    simp only [List.length_append, List.length_reverse] at h3 h4
    omega
  obtain ⟨hb1, hb2, hb3⟩ := hb
  repeat (first | walk1 | (dsimp only; walk1))
  refine wpAny_truthy_list (News.isList N (by k_mem)) (by rw [List.size_toArray]; omega) ?_
  (try k_unfold)
  (try dsimp only)
  by_cases hne1 : 0 < vs1.length
  · rw [if_pos (by cases vs1 with | nil => simp at hne1 | cons _ _ => rfl)]
    (try k_fold)
    repeat (first | walk1 | (dsimp only; walk1))
    rename News _ _ _ _ => N1
    rename Fr _ _ _ _ => F1
    by_cases hx : ns1.getLastD 0 ∈ ns2
    · refine rem_hit F1 N1 hf3 hx (by rw [sizeLine_eq]; omega) ?n1 ?n2 ?n3 ?_
      case n1 => k_ne
      case n2 => k_ne
      case n3 => exact fun p hp => hof1 p hp a (by simp)
      clear F1 N1
      intro q h1 F1 N1 hq hql
      repeat' ((fail_if_success (with_reducible show KswEnd _ _ _ _ _ _ _ _ _ _ _ _)); first | (k_unfold; (try dsimp only)) | walk1 | (dsimp only; walk1))
      refine ksw_end (((us, qs, k3), (vs1.dropLast, ns1.dropLast, k4 + 1), (q, ns2.erase (ns1.getLastD 0), k5 + 1)), fr1) (by assumption) (by assumption) (fun _ hp => hp) ⟨hf1, by assumption, hq, hsu, hfs⟩ (List.forall_mem_nil _) ?same ?hp ?hm
      case same => intro z h1 h2; simp only [List.contains_cons, List.contains_nil, Bool.or_false, beq_eq_false_iff_ne, ne_eq] at h2; simp [h2]
      case hp => exact u_turn (by rw [← hf2.length]; exact hne1) hInv (by unfold uStep; rw [if_pos hx])
      case hm => dsimp only; rw [List.length_dropLast, ← hf2.length]; omega
    · refine rem_miss N1 (by k_mem) hf3 hx rfl ?_
      intro h1 tk1 ex hex
      refine TI.noted_newT (new := (l9, W.listOf us.toArray k3) :: (e, W.listOf vs1.dropLast.toArray (k4 + 1)) :: (a, W.listOf vs2.toArray k5) :: rest) rfl hfs hex F1 N1 ?nd ?_
      case nd => exact hnd
      clear F1 N1
      intro h2 fr2 SU2 Fs2 H2
      refine H2.land ?_
      intro h3 H3
      refine TT.clause_hitTN H3 T (k := ?_)
      intro h4 F1 N1
      simp only [List.cons_append] at N1
      have hof2 := own_up hof1 SU2
      repeat' ((fail_if_success (with_reducible show KswEnd _ _ _ _ _ _ _ _ _ _ _ _)); first | (k_unfold; (try dsimp only)) | walk1 | (dsimp only; walk1))
      rename News _ _ _ _ => N5
      simp only [List.push_toArray] at N5
      refine ksw_end (((us ++ [_], qs ++ [ns1.getLastD 0], k3 + 1), (vs1.dropLast, ns1.dropLast, k4 + 1), (vs2, ns2, k5)), fr2) (by assumption) N5 (fun _ hp => hp) ⟨hf1.append (.cons _ _ .nil), by assumption, hf3, hsu.trans SU2, Fs2⟩ (List.forall_mem_nil _) ?same ?hp ?hm
      case same => intro z h1 h2; simp only [List.contains_cons, List.contains_nil, Bool.or_false, beq_eq_false_iff_ne, ne_eq] at h2; simp [h2]
      case hp => exact u_turn (by rw [← hf2.length]; exact hne1) hInv (by unfold uStep; rw [if_neg hx])
      case hm => dsimp only; rw [List.length_dropLast, ← hf2.length]; omega
  · have hv : vs1 = [] := List.length_eq_zero_iff.mp (by omega)
    subst hv
    cases hf2
    obtain ⟨dn, hd1, hd2⟩ := hInv
    rw [List.nil_append] at hd1
    subst hd1
    rw [if_neg (by decide)]
    (try dsimp only)
    (try k_fold)
    walk_at "m_steps"
    rename News _ _ _ _ => N5
    rename Fr _ _ _ _ => F5
    have hLfr : (L, oL) ∈ fr0 := by rw [hfr0]; exact List.mem_cons_self
    obtain ⟨sl, hLin⟩ := hsu.back _ hLfr
    have hLN := N5 _ (List.mem_cons_of_mem _ (List.mem_cons_of_mem _ (List.mem_cons_of_mem _ (List.mem_cons_of_mem _ (List.mem_append_right _ hLin)))))
    obtain ⟨esL, epL, hdL⟩ := C'.dict
    have SU9 : TI.SameUp ((L, oL) :: frs) fr1 := hfr0 ▸ hsu
    obtain ⟨frs1, SU1, FL, NL⟩ := leaveT (new := (_, { cls := Value.type "tuple", data := Data.seq #[Value.ref l9, Value.ref a] }) :: (l9, W.listOf us.toArray k3) :: (e, W.listOf #[] k4) :: (a, W.listOf vs2.toArray k5) :: rest) C' F5 N5 SU9 (by
      refine List.forall_mem_cons.mpr ⟨?_, List.forall_mem_cons.mpr ⟨?_, List.forall_mem_cons.mpr ⟨fun q => hLe q.symm, List.forall_mem_cons.mpr ⟨fun q => hLa q.symm, hrL⟩⟩⟩⟩
      · exact ne_frame (N5 _ (.head _)).1 hLN.1 hdL rfl
      · exact ne_frame (N5 _ (.tail _ (.head _))).1 hLN.1 hdL rfl) hofL
    have hd3 : (qs, ns2) = uRes _ ms := hd2
    have e1 : qs = (uRes _ ms).1 := congrArg Prod.fst hd3
    have e2 : ns2 = (uRes _ ms).2 := congrArg Prod.snd hd3
    exact hret _ _ _ _ _ _ _ _ _ _ SU1 FL NL (e1 ▸ hf1) (e2 ▸ hf3)
end
theorem anew_F6 : True := by
  w_top off
  k_with_none
  trivial
set_option maxHeartbeats 1000000
theorem fill6 : PySem.Challenge.rw_pa0046_01.row.prog = PySem.Challenge.rw_pa0046_01.row.prog ∧ Mine.pre.heap_1 = Mine.pre.heap_1 := by
  k_fill
  exact ⟨rfl, rfl⟩
local macro_rules | `(tactic| walk_at "m_top") => `(tactic| (first | assumption | exact Top.keeps (by assumption) (Fr.keep (by assumption))))
local macro_rules | `(tactic| walk_at "call ref") => `(tactic| (k_here; (show wpAny _ _ (call (Value.ref 56) [Value.bytes _ _]) _ _ _); k_dflt (refine' buffer_c ?k1 ?k2 ?k3 ?k4 ?_; (case k1 => k_in); (case k2 => walk_at "m_top"); (case k3 => ktr_room); (case k4 => ktr_units)); k_whole; intro t9 h9 tk9 kp9; obtain ⟨F9, N9⟩ := back (by k_asm) (by k_asm) kp9; clear kp9; (try dsimp only)))
local macro_rules | `(tactic| walk_at "call ref") => `(tactic| (k_here; (show wpAny _ _ (call (Value.ref 63) [Value.bool _]) _ _ _); k_dflt (refine' truth_c ?k1 ?k2 ?k3 ?k4 ?_; (case k1 => k_in); (case k2 => walk_at "m_top"); (case k3 => ktr_room); (case k4 => ktr_units)); k_whole; intro h9 tk9 kp9; obtain ⟨F9, N9⟩ := back (by k_asm) (by k_asm) kp9; clear kp9; (try dsimp only)))
theorem bor_nat (a b : Nat) : Builtin.bitOr (a : Int) (b : Int) = ((a ||| b : Nat) : Int) := by
  unfold Builtin.bitOr Builtin.bitNot Builtin.bitAnd
  have h1 : ¬ (0 ≤ -(a : Int) - 1) := by omega
  have h2 : ¬ (0 ≤ -(b : Int) - 1) := by omega
  simp only [h1, h2, decide_false, Builtin.bitNot]
  have e1 : (-(-(a : Int) - 1) - 1).toNat = a := by omega
  have e2 : (-(-(b : Int) - 1) - 1).toNat = b := by omega
  rw [e1, e2]
  omega
theorem bor_disj {x y : Int} (k : Nat) (hx : 0 ≤ x) (hy : 0 ≤ y) (hl : y < 2 ^ k) : Builtin.bitOr (x * 2 ^ k) y = x * 2 ^ k + y := by
  obtain ⟨a, rfl⟩ := Int.eq_ofNat_of_zero_le hx
  obtain ⟨b, rfl⟩ := Int.eq_ofNat_of_zero_le hy
  have hb : b < 2 ^ k := by exact_mod_cast hl
  have e : ((a : Int) * 2 ^ k) = ((a * 2 ^ k : Nat) : Int) := by push_cast; rfl
  rw [e, bor_nat, ← Nat.shiftLeft_eq, ← Nat.shiftLeft_add_eq_or_of_lt hb]
  push_cast
  rfl
section
variable {prog : Program} {w : World} {A : Around} {E : Value → Shared → Prop} {s : Shared} {Q : Value → Shared → Prop} {a b n : Int} {t u : Tok}
theorem and63 (h : Q (.int (a % 64) s.toks) { s with toks := s.toks + 1 }) : wpAny (model prog w) A (binaryOp .BitAnd (.int a t) (.int 63 u)) Q E s := and_int (by rw [bitAnd_m6]; exact h)
theorem and16 (h : Q (.int (a % 65536) s.toks) { s with toks := s.toks + 1 }) : wpAny (model prog w) A (binaryOp .BitAnd (.int a t) (.int 65535 u)) Q E s := and_int (by rw [bitAnd_m16]; exact h)
theorem and15 (h : Q (.int (a % 16) s.toks) { s with toks := s.toks + 1 }) : wpAny (model prog w) A (binaryOp .BitAnd (.int a t) (.int 15 u)) Q E s := and_int (by rw [bitAnd_m4]; exact h)
theorem and3 (h : Q (.int (a % 4) s.toks) { s with toks := s.toks + 1 }) : wpAny (model prog w) A (binaryOp .BitAnd (.int a t) (.int 3 u)) Q E s := and_int (by rw [bitAnd_m2]; exact h)
theorem shl_lit (c : Int) (hc : (2 : Int) ^ n.toNat = c) (hn : 0 ≤ n) (hn2 : n ≤ 1000000) (ha : 0 ≤ a ∧ a < 2 ^ 20) (h : Q (.int (a * c) s.toks) { s with toks := s.toks + 1 }) : wpAny (model prog w) A (binaryOp .LShift (.int a t) (.int n u)) Q E s :=
  lshift_int_small hn hn2 (by omega) (by rw [hc]; exact h)
theorem shr_lit (c : Int) (hc : (2 : Int) ^ n.toNat = c) (hc0 : 0 ≤ c) (hn : 0 ≤ n) (h : Q (.int (a / c) s.toks) { s with toks := s.toks + 1 }) : wpAny (model prog w) A (binaryOp .RShift (.int a t) (.int n u)) Q E s :=
  rshift_int hn (by rw [hc, Int.fdiv_eq_ediv_of_nonneg _ hc0]; exact h)
theorem or_lit (k : Nat) (c : Int) (hc : (2 : Int) ^ k = c) (ha : 0 ≤ a) (hb : 0 ≤ b ∧ b < c) (h : Q (.int (a * c + b) s.toks) { s with toks := s.toks + 1 }) : wpAny (model prog w) A (binaryOp .BitOr (.int (a * c) t) (.int b u)) Q E s :=
  or_int (by subst hc; rw [bor_disj k ha hb.1 hb.2]; exact h)
end
local macro_rules | `(tactic| walk_at "binaryOp LShift int int") => `(tactic| (k_here; first | refine shl_lit 256 (by decide) (by decide) (by decide) (by omega) ?_ | refine shl_lit 4 (by decide) (by decide) (by decide) (by omega) ?_ | refine shl_lit 16 (by decide) (by decide) (by decide) (by omega) ?_ | refine shl_lit 64 (by decide) (by decide) (by decide) (by omega) ?_))
local macro_rules | `(tactic| walk_at "binaryOp RShift int int") => `(tactic| (k_here; first | refine shr_lit 4 (by decide) (by decide) (by decide) ?_ | refine shr_lit 16 (by decide) (by decide) (by decide) ?_ | refine shr_lit 64 (by decide) (by decide) (by decide) ?_ | refine shr_lit 1 (by decide) (by decide) (by decide) ?_))
local macro_rules | `(tactic| walk_at "binaryOp BitAnd int int") => `(tactic| (k_here; first | refine and63 ?_ | refine and16 ?_ | refine and15 ?_ | refine and3 ?_))
local macro_rules | `(tactic| walk_at "binaryOp BitOr int int") => `(tactic| (k_here; first | refine or_lit 8 256 (by decide) (by omega) (by omega) ?_ | refine or_lit 2 4 (by decide) (by omega) (by omega) ?_ | refine or_lit 4 16 (by decide) (by omega) (by omega) ?_ | refine or_lit 6 64 (by decide) (by omega) (by omega) ?_))
def chrOf (i : Int) : Int := ((([65,66,67,68,69,70,71,72,73,74,75,76,77,78,79,80,81,82,83,84,85,86,87,88,89,90,97,98,99,100,101,102,103,104,105,106,107,108,109,110,111,112,113,114,115,116,117,118,119,120,121,122,48,49,50,51,52,53,54,55,56,57,43,47] : List UInt8).getD i.toNat 0).toNat : Int)
theorem chrOf_in (i : Int) : 0 ≤ chrOf i ∧ chrOf i < 256 := by
  unfold chrOf
  generalize List.getD _ _ _ = c
  have := c.toNat_lt
  omega
def encStep (st : Int × Int × List Int) (b : Int) : Int × Int × List Int :=
  if st.1 = 0 then (2, (st.2.1 * 256 + b) % 65536, st.2.2 ++ [chrOf ((st.2.1 * 256 + b) % 65536 / 4 % 64)])
  else if st.1 = 2 then (4, (st.2.1 * 256 + b) % 65536, st.2.2 ++ [chrOf ((st.2.1 * 256 + b) % 65536 / 16 % 64)])
  else (0, (st.2.1 * 256 + b) % 65536, st.2.2 ++ [chrOf ((st.2.1 * 256 + b) % 65536 / 64 % 64)] ++ [chrOf ((st.2.1 * 256 + b) % 65536 / 1 % 64)])
def encS (pre : List Int) : Int × Int × List Int := pre.foldl encStep (0, 0, [])
theorem encS_snoc (pre : List Int) (b : Int) : encS (pre ++ [b]) = encStep (encS pre) b := by simp [encS]
structure EncOk (n : Nat) (st : Int × Int × List Int) : Prop where
  lb : st.1 = 2 * ((n % 3 : Nat) : Int)
  lc : 0 ≤ st.2.1 ∧ st.2.1 ≤ 65535
  out : KBa.In st.2.2
  len : st.2.2.length ≤ 2 * n
theorem encStep_ok {n : Nat} {st : Int × Int × List Int} (h : EncOk n st) (b : Int) : EncOk (n + 1) (encStep st b) := by
  obtain ⟨h1, h2, h3, h4⟩ := h
  have hl : 0 ≤ (st.2.1 * 256 + b) % 65536 ∧ (st.2.1 * 256 + b) % 65536 ≤ 65535 := by omega
  have hin : ∀ l : List Int, (∀ x ∈ l, ∃ i, x = chrOf i) → KBa.In (st.2.2 ++ l) := by
    intro l hl x hx
    rcases List.mem_append.mp hx with hx | hx
    · exact h3 x hx
    · obtain ⟨i, rfl⟩ := hl x hx
      exact chrOf_in i
  unfold encStep
  by_cases e0 : st.1 = 0
  · rw [if_pos e0]
    refine ⟨by show (2 : Int) = _; omega, hl, hin _ (by intro x hx; simp only [List.mem_cons, List.not_mem_nil, or_false, List.mem_append] at hx; first | (rcases hx with rfl | rfl <;> exact ⟨_, rfl⟩) | exact ⟨_, hx⟩), ?_⟩
    simp only [List.length_append, List.length_cons, List.length_nil]; omega
  · rw [if_neg e0]
    by_cases e2 : st.1 = 2
    · rw [if_pos e2]
      refine ⟨by show (4 : Int) = _; omega, hl, hin _ (by intro x hx; simp only [List.mem_cons, List.not_mem_nil, or_false, List.mem_append] at hx; first | (rcases hx with rfl | rfl <;> exact ⟨_, rfl⟩) | exact ⟨_, hx⟩), ?_⟩
      simp only [List.length_append, List.length_cons, List.length_nil]; omega
    · rw [if_neg e2]
      refine ⟨by show (0 : Int) = _; omega, hl, ?_, ?_⟩
      · rw [List.append_assoc]; exact hin _ (by intro x hx; simp only [List.mem_cons, List.not_mem_nil, or_false, List.mem_append] at hx; first | (rcases hx with rfl | rfl <;> exact ⟨_, rfl⟩) | exact ⟨_, hx⟩)
      · simp only [List.length_append, List.length_cons, List.length_nil]; omega
theorem encF_ok : ∀ (l : List Int) {n : Nat} {st : Int × Int × List Int}, EncOk n st → EncOk (n + l.length) (l.foldl encStep st)
  | [], _, _, h => h
  | b :: l, n, st, h => by
    have := encF_ok l (encStep_ok h b)
    rw [List.length_cons, List.foldl_cons, show n + (l.length + 1) = n + 1 + l.length by omega]
    exact this
theorem encS_ok (pre : List Int) : EncOk pre.length (encS pre) := by
  have := encF_ok pre (n := 0) (st := (0, 0, [])) ⟨rfl, by decide, fun _ h => (nomatch h), Nat.le_refl _⟩
  rwa [Nat.zero_add] at this
theorem enc_turn {pre out : List Int} {n lb lc lb' lc' : Int} {o' : List Int} (h : (lb, lc, out) = encS pre) (e : (lb', lc', o') = encStep (lb, lc, out) n) : (lb', lc', o') = encS (pre ++ [n]) := by
  rw [encS_snoc, ← h]; exact e
section
variable {w : World} {mean : ExcName → Option Value} {mg mb : Str → Option Value} {dp un : Nat} {gd : Option (List Code)} {fr : Option (List Env)} {s : Shared} {Q E : Value → Shared → Prop}
theorem b2a_c {ns : List Int} {tb : Tok} (X : (pre.heap_1 w.params).In s.heap) (T : Top topProg LS mean mg mb s.heap) (hdp : dp + 2 < recursionLimit) (hun : un + 16 < cLine)
   (hin : KBa.In ns) (hn : ns.length < 100) (hn3 : ns.length % 3 = 0)
   (hret : ∀ t h' tk', Keeps s.heap h' → Q (.bytes (byteArr (encS ns).2.2) t) { s with heap := h', toks := tk' }) :
   wpAny (model PySem.Challenge.rw_pa0046_01.row.prog w) (Ar dp un gd fr) (call (.ref 86) [Value.bytes (byteArr ns) tb] [(Str.ofString "newline", Value.bool false)]) Q E s := by
  walk_at "m_enter"
  walk_at "m_to"
  rename News _ _ _ _ => N9
  rename Fr _ _ _ _ => F9
  obtain ⟨l9, hl9⟩ : ∃ l, l = adr1 N9 := ⟨_, rfl⟩
  dsimp only [adr1] at hl9
  subst hl9
  refine KStb.kst_bytes (fun c : List Value × List Int × Nat × Int × Tok × Int × Tok => [(l9, W.listOf c.1.toArray c.2.2.1)]) (fun c => [(Str.ofString "leftbits", .int c.2.2.2.1 c.2.2.2.2.1), (Str.ofString "leftchar", .int c.2.2.2.2.2.1 c.2.2.2.2.2.2)]) (fun c => IntsAre c.1 c.2.1) [] (fun pre c => (c.2.2.2.1, c.2.2.2.2.2.1, c.2.1) = encS pre) ([], [], 0, 0, ?t1, 0, ?t2) (KBa.ints_make hin) rfl rfl F9 N9 .nil ?ps ?p0 ?turn ?done
  case ps => kst_all
  case p0 => rfl
  all_goals clear F9 N9
  case turn =>
    rintro ⟨vs', out, k, lb, t1, lc, t2⟩ pre post n t u h tk own hEq hlt hn0 hn1 hOff hFacts hInv F N
    dsimp only [kstB] at F N hOff hFacts hInv
    simp only [List.nil_append, List.cons_append, List.append_nil] at N
    (try k_fold)
    have kMark := kstMark
    obtain ⟨hlb, hlc, ho, hlen⟩ := hInv ▸ encS_ok pre
    dsimp only at hlb hlc ho hlen
    have hlt' : pre.length < ns.length := hlt
    have hb : vs'.length < 400 := by
      have := hFacts.length
      omega
    have h3 : lb = 0 ∨ lb = 2 ∨ lb = 4 := by omega
    clear hlb
    rcases h3 with rfl | rfl | rfl
    · walk_at "m_turn"
      rename News _ _ _ _ => nE
      simp only [List.push_toArray] at nE
      refine kendB (by assumption) nE (hFacts.append (.cons _ _ .nil)) (by rfl) (by rfl) (by kst_same) ?_
      exact enc_turn hInv rfl
    · walk_at "m_turn"
      rename News _ _ _ _ => nE
      simp only [List.push_toArray] at nE
      refine kendB (by assumption) nE (hFacts.append (.cons _ _ .nil)) (by rfl) (by rfl) (by kst_same) ?_
      exact enc_turn hInv rfl
    · walk_at "m_turn"
      rename News _ _ _ _ => nE
      simp only [List.push_toArray] at nE
      refine kendB (by assumption) nE ((hFacts.append (.cons _ _ .nil)).append (.cons _ _ .nil)) (by rfl) (by rfl) (by kst_same) ?_
      exact enc_turn hInv rfl
  case done =>
    rintro ⟨vs', out, k, lb, t1, lc, t2⟩ u h tk hl hFacts hInv F N
    dsimp only [kstB] at F N hFacts hInv
    (try k_fold)
    obtain ⟨hlb, hlc, ho, hlen⟩ := hInv ▸ encS_ok ns
    dsimp only at hlb hlc ho hlen
    have h3 : lb = 0 := by omega
    clear hlb
    subst h3
    walk_at "m_steps"
    rename Fr _ _ _ _ => F'
    have e : out = (encS ns).2.2 := congrArg (fun x => x.2.2) hInv
    rw [e]
    exact hret _ _ _ F'.keep
end
theorem anew_F7 : True := by
  w_top off
  k_with_none
  trivial
set_option maxHeartbeats 1000000
theorem fill7 : PySem.Challenge.rw_pa0046_01.row.prog = PySem.Challenge.rw_pa0046_01.row.prog ∧ Mine.pre.heap_1 = Mine.pre.heap_1 := by
  k_fill
  exact ⟨rfl, rfl⟩
local macro_rules | `(tactic| walk_at "call ref") => `(tactic| (k_here; (show wpAny _ _ (call (Value.ref 49) [Value.bytes _ _]) _ _ _); k_dflt (refine' ascii_buffer_c ?k1 ?k2 ?k3 ?k4 ?_; (case k1 => k_in); (case k2 => walk_at "m_top"); (case k3 => ktr_room); (case k4 => ktr_units)); k_whole; intro t9 h9 tk9 kp9; obtain ⟨F9, N9⟩ := back (by k_asm) (by k_asm) kp9; clear kp9; (try dsimp only)))
local macro_rules | `(tactic| walk_at "call ref") => `(tactic| (k_here; (show wpAny _ _ (call (Value.ref 70) [Value.int _ _]) _ _ _); k_dflt (refine' b64_value_c ?k1 ?k2 ?k3 ?k4 ?_; (case k1 => k_in); (case k2 => walk_at "m_top"); (case k3 => ktr_room); (case k4 => ktr_units)); k_whole; intro t9 h9 tk9 kp9; obtain ⟨F9, N9⟩ := back (by k_asm) (by k_asm) kp9; clear kp9; (try dsimp only)))
theorem b64v_in (c : Int) : 0 ≤ b64v c ∧ b64v c ≤ 64 := by
  unfold b64v
  repeat' split
  all_goals omega
def decStep (st : Int × Int × List Int) (n : Int) : Int × Int × List Int :=
  if b64v n ≥ 64 then st
  else if st.1 = 0 then (1, b64v n, st.2.2)
  else if st.1 = 1 then (2, b64v n % 16, st.2.2 ++ [st.2.1 * 4 + b64v n / 16])
  else if st.1 = 2 then (3, b64v n % 4, st.2.2 ++ [st.2.1 * 16 + b64v n / 4])
  else (0, 0, st.2.2 ++ [st.2.1 * 64 + b64v n])
def decS (pre : List Int) : Int × Int × List Int := pre.foldl decStep (0, 0, [])
theorem decS_snoc (pre : List Int) (b : Int) : decS (pre ++ [b]) = decStep (decS pre) b := by simp [decS]
structure DecOk (n : Nat) (st : Int × Int × List Int) : Prop where
  q : 0 ≤ st.1 ∧ st.1 < 4
  l : 0 ≤ st.2.1 ∧ st.2.1 < 64 ∧ (st.1 = 2 → st.2.1 < 16) ∧ (st.1 = 3 → st.2.1 < 4)
  out : KBa.In st.2.2
  len : st.2.2.length ≤ n
theorem decStep_ok {n : Nat} {st : Int × Int × List Int} (h : DecOk n st) (b : Int) : DecOk (n + 1) (decStep st b) := by
  obtain ⟨h1, h2, h3, h4⟩ := h
  have hv := b64v_in b
  have hin : ∀ x : Int, 0 ≤ x → x < 256 → KBa.In (st.2.2 ++ [x]) := by
    intro x h0 h1 y hy
    rcases List.mem_append.mp hy with hy | hy
    · exact h3 y hy
    · rw [List.mem_singleton.mp hy]; exact ⟨h0, h1⟩
  unfold decStep
  generalize b64v b = v at *
  by_cases e : v ≥ 64
  · rw [if_pos e]; exact ⟨h1, h2, h3, by omega⟩
  rw [if_neg e]
  by_cases e0 : st.1 = 0
  · rw [if_pos e0]; exact ⟨by dsimp only; omega, by dsimp only; omega, h3, by dsimp only; omega⟩
  rw [if_neg e0]
  by_cases e1 : st.1 = 1
  · rw [if_pos e1]
    exact ⟨by dsimp only; omega, by dsimp only; omega, hin _ (by omega) (by omega), by simp only [List.length_append, List.length_cons, List.length_nil]; omega⟩
  rw [if_neg e1]
  by_cases e2 : st.1 = 2
  · rw [if_pos e2]
    have := h2.2.2.1 e2
    exact ⟨by dsimp only; omega, by dsimp only; omega, hin _ (by omega) (by omega), by simp only [List.length_append, List.length_cons, List.length_nil]; omega⟩
  rw [if_neg e2]
  have := h2.2.2.2 (by omega)
  exact ⟨by dsimp only; omega, by dsimp only; omega, hin _ (by omega) (by omega), by simp only [List.length_append, List.length_cons, List.length_nil]; omega⟩
theorem decF_ok : ∀ (l : List Int) {n : Nat} {st : Int × Int × List Int}, DecOk n st → DecOk (n + l.length) (l.foldl decStep st)
  | [], _, _, h => h
  | b :: l, n, st, h => by
    have := decF_ok l (decStep_ok h b)
    rw [List.length_cons, List.foldl_cons, show n + (l.length + 1) = n + 1 + l.length by omega]
    exact this
theorem decS_ok (pre : List Int) : DecOk pre.length (decS pre) := by
  have := decF_ok pre (n := 0) (st := (0, 0, [])) ⟨by decide, by decide, fun _ h => (nomatch h), Nat.le_refl _⟩
  rwa [Nat.zero_add] at this
theorem dec_turn {pre out : List Int} {n q l q' l' : Int} {o' : List Int} (h : (q, l, out) = decS pre) (e : (q', l', o') = decStep (q, l, out) n) : (q', l', o') = decS (pre ++ [n]) := by
  rw [decS_snoc, ← h]; exact e
section
variable {w : World} {mean : ExcName → Option Value} {mg mb : Str → Option Value} {dp un : Nat} {gd : Option (List Code)} {fr : Option (List Env)} {s : Shared} {Q E : Value → Shared → Prop}
theorem a2b_c {ns : List Int} {tb : Tok} (X : (pre.heap_1 w.params).In s.heap) (T : Top topProg LS mean mg mb s.heap) (hdp : dp + 2 < recursionLimit) (hun : un + 16 < cLine)
   (hin : KBa.In ns) (hn : ns.length < 100) (hne : ∀ c ∈ ns, c ≠ 61) (hq : (decS ns).1 = 0)
   (hret : ∀ t h' tk', Keeps s.heap h' → Q (.bytes (byteArr (decS ns).2.2) t) { s with heap := h', toks := tk' }) :
   wpAny (model PySem.Challenge.rw_pa0046_01.row.prog w) (Ar dp un gd fr) (call (.ref 78) [Value.bytes (byteArr ns) tb] [(Str.ofString "strict_mode", Value.bool false)]) Q E s := by
  walk_at "m_enter"
  walk_at "m_to"
  rename News _ _ _ _ => N9
  rename Fr _ _ _ _ => F9
  obtain ⟨l9, hl9⟩ : ∃ l, l = adr1 N9 := ⟨_, rfl⟩
  dsimp only [adr1] at hl9
  subst hl9
  refine KStb.kst_bytes (fun c : List Value × List Int × Nat × Int × Tok × Int × Tok × Int × Tok × Int × Tok => [(l9, W.listOf c.1.toArray c.2.2.1)]) (fun c => [(Str.ofString "quad_pos", .int c.2.2.2.1 c.2.2.2.2.1), (Str.ofString "leftchar", .int c.2.2.2.2.2.1 c.2.2.2.2.2.2.1), (Str.ofString "pads", .int c.2.2.2.2.2.2.2.1 c.2.2.2.2.2.2.2.2.1), (Str.ofString "i", .int c.2.2.2.2.2.2.2.2.2.1 c.2.2.2.2.2.2.2.2.2.2)]) (fun c => IntsAre c.1 c.2.1) [] (fun pre c => (c.2.2.2.1, c.2.2.2.2.2.1, c.2.1) = decS pre ∧ c.2.2.2.2.2.2.2.1 = 0) ([], [], 0, 0, ?t1, 0, ?t2, 0, ?t3, 0, ?t4) (KBa.ints_make hin) rfl rfl F9 N9 .nil ?ps ?p0 ?turn ?done
  case ps => kst_all
  case p0 => exact ⟨rfl, rfl⟩
  all_goals clear F9 N9
  case turn =>
    rintro ⟨vs', out, k, q, t1, l, t2, pads, t3, i, t4⟩ pre post n t u h tk own hEq hlt hn0 hn1 hOff hFacts ⟨hInv, hpads⟩ F N
    dsimp only [kstB] at F N hOff hFacts hInv hpads
    simp only [List.nil_append, List.cons_append, List.append_nil] at N
    subst hpads
    (try k_fold)
    have kMark := kstMark
    obtain ⟨hq, hl, ho, hlen⟩ := hInv ▸ decS_ok pre
    dsimp only at hq hl ho hlen
    have hn61 : n ≠ 61 := hne n (by rw [hEq]; simp)
    have hv := b64v_in n
    have hlt' : pre.length < ns.length := hlt
    have hb : vs'.length < 400 := by
      have := hFacts.length
      omega
    walk_at "m_turn"
    all_goals (rename News _ _ _ _ => nE; (try simp only [List.push_toArray] at nE))
    all_goals (first
      | (exfalso; omega)
      | (refine kendD (by assumption) nE hFacts (by rfl) (by rfl) (by rfl) (by rfl) (by kst_same) ⟨?_, rfl⟩; refine dec_turn hInv ?_)
      | (refine kendD (by assumption) nE (hFacts.append (.cons _ _ .nil)) (by rfl) (by rfl) (by rfl) (by rfl) (by kst_same) ⟨?_, rfl⟩; refine dec_turn hInv ?_))
    all_goals (unfold decStep; dsimp only)
    all_goals (first
      | rw [if_pos (by omega)]
      | rw [if_neg (by omega), if_pos (by omega)]
      | rw [if_neg (by omega), if_neg (by omega), if_pos (by omega)]
      | rw [if_neg (by omega), if_neg (by omega), if_neg (by omega), if_pos (by omega)]
      | rw [if_neg (by omega), if_neg (by omega), if_neg (by omega), if_neg (by omega)])
  case done =>
    rintro ⟨vs', out, k, q, t1, l, t2, pads, t3, i, t4⟩ u h tk hl hFacts ⟨hInv, hpads⟩ F N
    dsimp only [kstB] at F N hFacts hInv
    (try k_fold)
    obtain ⟨hq', hl, ho, hlen⟩ := hInv ▸ decS_ok ns
    dsimp only at hq' hl ho hlen
    have h3 : q = 0 := (congrArg (fun x => x.1) hInv).trans hq
    subst h3
    walk_at "m_steps"
    rename Fr _ _ _ _ => F'
    have e : out = (decS ns).2.2 := congrArg (fun x => x.2.2) hInv
    rw [e]
    exact hret _ _ _ F'.keep
end
theorem anew_Trans : True := by
  w_top off
  k_with_none
  trivial
set_option maxHeartbeats 1000000
namespace Tr
open Builtin
theorem slot_tr : Slot "bytes" "translate" "bytes.translate" :=
  .of (owner := "bytes") (n := "translate") (by rw [typeLookup_type, builtinLookup_eq_fast]; kernel_rfl) (by decide +kernel) (by decide +kernel) (by decide +kernel)
    (by first | exact .inl (by decide +kernel) | exact .inr (by decide +kernel)) (by rw [isSubtype_type]; kernel_rfl)
theorem type_tr : typeOf (.builtin "bytes.translate") = pure (.type "method_descriptor") := by show builtinType _ = _; rw [builtinType_eq_fast]; kernel_rfl
theorem entry_tr : entryFor table "bytes.translate" = some Builtin.«bytes.translate» := entryFor_of_tree (by kernel_rfl)
theorem args_tr (a b : Value) : argsOk "bytes.translate" ⟨[a, b], []⟩ := by unfold argsOk; kernel_rfl
theorem plain_mk : plainId "bytes.maketrans" = true := by decide +kernel
theorem entry_mk : entryFor table "bytes.maketrans" = some Builtin.«bytes.maketrans» := entryFor_of_tree (by kernel_rfl)
theorem chk_mk (a b : Value) : checkBuiltinCall "bytes.maketrans" ⟨[a, b], []⟩ = pure () := by kernel_rfl
def ident : Array UInt8 := (Array.range 256).map (·.toUInt8)
def tab (f to : Array UInt8) : Array UInt8 := (f.toList.zip to.toList).foldl (fun t (p : UInt8 × UInt8) => t.setIfInBounds p.1.toNat p.2) ident
theorem tab_size (f to : Array UInt8) : (tab f to).size = 256 := by
  unfold tab
  have key : ∀ (l : List (UInt8 × UInt8)) (t : Array UInt8), (l.foldl (fun t (p : UInt8 × UInt8) => t.setIfInBounds p.1.toNat p.2) t).size = t.size := by
    intro l
    induction l with
    | nil => intro t; rfl
    | cons p l ih => intro t; rw [List.foldl_cons, ih]; simp
  rw [key]
  simp [ident]
theorem meets_mk {f to : Array UInt8} {t u : Tok} (hsz : f.size = to.size) :
    Meets («bytes.maketrans» ⟨[.bytes f t, .bytes to u], []⟩) (fun _ R s => R (.ok (.ret (.bytes (tab f to) s.toks))) { s with toks := s.toks + 1 }) := by
  refine .of_wp fun prog w A R s hS => ?_
  show wpAny _ _ (Bytes.bytesLike _ (.bytes f t) >>= fun frm => Bytes.bytesLike _ (.bytes to u) >>= fun to' => _) _ _ s
  refine wpAny_bind (wpAny_of_eq KBd.like_eq ?_)
  refine wpAny_bind (wpAny_of_eq KBd.like_eq ?_)
  have e : (f.size != to.size) = false := by rw [hsz]; simp
  refine wpAny_ite ?_
  rw [if_neg (by rw [e]; exact Bool.false_ne_true)]
  exact wpAny_bind (wpAny_mkBytes (wpAny_pure ⟨_, rfl, hS⟩) (by have h9 : (tab f to).size ≤ sizeLine := by { rw [tab_size, sizeLine_eq]; omega }; exact h9))
section
variable {prog : Program} {w : World} {A : Around} {E : Value → Shared → Prop} {s : Shared} {Q : Value → Shared → Prop} {f to b : Array UInt8} {t u : Tok}
theorem call_mk (hsz : f.size = to.size) (h : Q (.bytes (tab f to) s.toks) { s with toks := s.toks + 1 }) : wpAny (model prog w) A (call (.builtin "bytes.maketrans") [.bytes f t, .bytes to u]) Q E s := by
  refine wpAny_call (codeAny_call_builtin plain_mk entry_mk ?_)
  rw [chk_mk]
  exact wpAny_pure (meets_mk hsz prog w A (wants Q E) s h)
theorem meets_tr (hsz : to.size = 256) (hb : b.size ≤ sizeLine) :
    Meets («bytes.translate» ⟨[.bytes b t, .bytes to u], []⟩) (fun _ R s => ∀ t' k, R (.ok (.ret (.bytes (b.map fun c => to.getD c.toNat c) t'))) { s with toks := k }) := by
  refine .of_wp fun prog w A R s hS => ?_
  have hl : ∀ id, Bytes.bytesLike id (.bytes to u) = pure to := fun _ => KBd.like_eq
  show wpAny _ _ (Bytes.translateM .bytes ⟨[.bytes b t, .bytes to u], []⟩) _ _ s
  unfold Bytes.translateM
  dsimp only
  have e1 : (Value.bytes to u == Value.none) = false := rfl
  have e2 : (to.size != 256) = false := by rw [hsz]; rfl
  rw [if_neg (by simp only [List.length_cons, List.length_nil]; decide), if_neg (by decide), e1, if_neg (by decide)]
  refine wpAny_bind (wpAny_of_eq (hl _) ?_)
  rw [if_neg (by rw [e2]; decide)]
  refine wpAny_bind (wpAny_pure ?_)
  refine wpAny_bind (wpAny_pure ?_)
  refine wpAny_bind (wpAny_pure ?_)
  dsimp only
  have ef : Array.filter (fun x : UInt8 => !(#[] : Array UInt8).contains x) b = b := by simp
  rw [ef]
  by_cases hq : (Array.map (fun c => to.getD c.toNat c) b == b) = true
  · rw [if_pos hq]
    have eb := eq_of_beq hq
    refine wpAny_bind (wpAny_rule ?_)
    show wpAny _ _ (pure (Value.bytes b t) >>= fun v => ret v) _ _ s
    refine wpAny_bind (wpAny_pure (wpAny_pure ⟨_, rfl, ?_⟩))
    have := hS t s.toks
    rw [eb] at this
    exact this
  · rw [if_neg hq]
    refine wpAny_bind (wpAny_mkBytes (wpAny_pure ⟨_, rfl, hS _ _⟩) (by rw [Array.size_map]; exact hb))
theorem call_tr (hsz : to.size = 256) (hb : b.size ≤ sizeLine) (h : ∀ t' k, Q (.bytes (b.map fun c => to.getD c.toNat c) t') { s with toks := k }) : wpAny (model prog w) A (call (.builtin "bytes.translate") [.bytes b t, .bytes to u]) Q E s :=
  call_meets slot_tr (typeIs_bytes _ _ _) entry_tr (args_tr _ _) (meets_tr hsz hb) h
theorem method_tr {M : Model} {pl : Sem Bool} {Q : Value × List Value → Shared → Prop} (h : Q (.builtin "bytes.translate", [.bytes b t]) s) : wpAny M A (getMethod (.bytes b t) "translate" pl) Q E s :=
  by with_reducible exact KBd.method_of (.bytes b t) (typeIs_bytes _ _ _) slot_tr type_tr KBd.noRef h
end
theorem ident_get (c : UInt8) : ident[c.toNat]? = some c := by
  have h : c.toNat < 256 := c.toNat_lt
  unfold ident
  rw [Array.getElem?_map, Array.getElem?_range, if_pos h]
  simp
theorem tab_get (a0 a1 b0 b1 c : UInt8) : (tab #[a0, a1] #[b0, b1]).getD c.toNat c = if c = a1 then b1 else if c = a0 then b0 else c := by
  have e : tab #[a0, a1] #[b0, b1] = (ident.setIfInBounds a0.toNat b0).setIfInBounds a1.toNat b1 := rfl
  have hs : ident.size = 256 := by simp [ident]
  rw [e, Array.getD_eq_getD_getElem?, Array.getElem?_setIfInBounds, Array.getElem?_setIfInBounds, Array.size_setIfInBounds, hs]
  have h0 : a0.toNat < 256 := a0.toNat_lt
  have h1 : a1.toNat < 256 := a1.toNat_lt
  by_cases e1 : c = a1
  · subst e1; simp [h1]
  · have n1 : a1.toNat ≠ c.toNat := fun h => e1 (UInt8.toNat_inj.mp h).symm
    rw [if_neg n1, if_neg e1]
    by_cases e0 : c = a0
    · subst e0; simp [h0]
    · have n0 : a0.toNat ≠ c.toNat := fun h => e0 (UInt8.toNat_inj.mp h).symm
      rw [if_neg n0, if_neg e0, ident_get]
      rfl
end Tr
def trF (f0 f1 x0 x1 c : Int) : Int := if c = f1 then x1 else if c = f0 then x0 else c
theorem u8_toNat {n : Int} (h : 0 ≤ n ∧ n < 256) : n.toNat.toUInt8.toNat = n.toNat := by
  rw [Nat.toUInt8_eq, UInt8.toNat_ofNat']
  omega
theorem u8_eq {m n : Int} (hm : 0 ≤ m ∧ m < 256) (hn : 0 ≤ n ∧ n < 256) : m.toNat.toUInt8 = n.toNat.toUInt8 ↔ m = n := by
  constructor
  · intro h
    have := congrArg UInt8.toNat h
    rw [u8_toNat hm, u8_toNat hn] at this
    omega
  · rintro rfl; rfl
theorem tr_byteArr {ns : List Int} {f0 f1 x0 x1 : Int} (h : KBa.In ns) (h0 : 0 ≤ f0 ∧ f0 < 256) (h1 : 0 ≤ f1 ∧ f1 < 256) :
    (byteArr ns).map (fun c => (Tr.tab (byteArr [f0, f1]) (byteArr [x0, x1])).getD c.toNat c) = byteArr (ns.map (trF f0 f1 x0 x1)) := by
  have e : ∀ c, (Tr.tab (byteArr [f0, f1]) (byteArr [x0, x1])).getD c.toNat c = if c = f1.toNat.toUInt8 then x1.toNat.toUInt8 else if c = f0.toNat.toUInt8 then x0.toNat.toUInt8 else c := fun c => Tr.tab_get _ _ _ _ c
  simp only [e]
  unfold byteArr
  rw [List.map_toArray, List.map_map, List.map_map]
  congr 1
  refine List.map_congr_left fun n hn => ?_
  have hn' := h n hn
  simp only [Function.comp_apply, trF]
  simp only [u8_eq hn' h1, u8_eq hn' h0]
  split
  · rfl
  · split <;> rfl
theorem trF_in {ns : List Int} {f0 f1 x0 x1 : Int} (h : KBa.In ns) (hx : KBa.In [x0, x1]) : KBa.In (ns.map (trF f0 f1 x0 x1)) := by
  intro c hc
  obtain ⟨n, hn, rfl⟩ := List.mem_map.mp hc
  unfold trF
  split
  · exact hx _ (by simp)
  · split
    · exact hx _ (by simp)
    · exact h n hn
theorem anew_F8 : True := by
  w_top off
  k_with_none
  trivial
set_option maxHeartbeats 1000000
theorem fill8 : PySem.Challenge.rw_pa0046_01.row.prog = PySem.Challenge.rw_pa0046_01.row.prog ∧ Mine.pre.heap_1 = Mine.pre.heap_1 := by
  k_fill
  exact ⟨rfl, rfl⟩
local macro_rules | `(tactic| walk_at "call ref") => `(tactic| (k_here; (show wpAny _ _ (call (Value.ref 86) [Value.bytes (byteArr _) _] [(Str.ofString "newline", Value.bool false)]) _ _ _); k_dflt (refine' b2a_c ?k1 ?k2 ?k3 ?k4 ?k5 ?k6 ?k7 ?_; (case k1 => k_in); (case k2 => walk_at "m_top"); (case k3 => ktr_room); (case k4 => ktr_units); (case k5 => assumption); (case k6 => assumption); (case k7 => assumption)); k_whole; intro t9 h9 tk9 kp9; obtain ⟨F9, N9⟩ := back (by k_asm) (by k_asm) kp9; clear kp9; (try dsimp only)))
theorem byteArr_le {ns : List Int} (h : ns.length < 400) : (byteArr ns).size ≤ sizeLine := by rw [byteArr_size, sizeLine_eq]; omega
local macro_rules | `(tactic| walk_at "getMethod bytes") => `(tactic| (k_here; (with_reducible refine Tr.method_tr ?_)))
local macro_rules | `(tactic| walk_at "getMethod type:bytes") => `(tactic| (k_here; refine' method_type ?F ?X ?m (by decide +kernel) ?e ?h ?_; (case F => k_asm); (case X => k_asm); (case m => kernel_rfl); (case e => k_dflt k_is); (case h => k_handed)))
local macro_rules | `(tactic| walk_at "call builtin:bytes.maketrans") => `(tactic| (k_here; refine Tr.call_mk (by rfl) ?_))
local macro_rules | `(tactic| walk_at "call builtin:bytes.translate") => `(tactic| (k_here; (refine Tr.call_tr (Tr.tab_size _ _) (byteArr_le (by assumption)) ?_); intro t9 k9))
theorem encS_in (ns : List Int) : KBa.In (encS ns).2.2 := (encS_ok ns).out
local macro_rules | `(tactic| walk_at "call ref") => `(tactic| (k_here; (show wpAny _ _ (call (Value.ref 29) [Value.bytes _ _]) _ _ _); k_dflt (refine' bfdd_c ?k1 ?k2 ?k3 ?k4 ?_; (case k1 => k_in); (case k2 => walk_at "m_top"); (case k3 => ktr_room); (case k4 => ktr_units)); k_whole; intro t9 h9 tk9 kp9; obtain ⟨F9, N9⟩ := back (by k_asm) (by k_asm) kp9; clear kp9; (try dsimp only)))
local macro_rules | `(tactic| walk_at "call ref") => `(tactic| (k_here; (show wpAny _ _ (call (Value.ref 78) [Value.bytes (Array.map _ (byteArr _)) _] [(Str.ofString "strict_mode", Value.bool false)]) _ _ _); (rename _ = byteArr _ => e9); rw [e9]; k_dflt (refine' a2b_c ?k1 ?k2 ?k3 ?k4 ?k5 ?k6 ?k7 ?k8 ?_; (case k1 => k_in); (case k2 => walk_at "m_top"); (case k3 => ktr_room); (case k4 => ktr_units); (case k5 => assumption); (case k6 => assumption); (case k7 => assumption); (case k8 => assumption)); k_whole; intro t9 h9 tk9 kp9; obtain ⟨F9, N9⟩ := back (by k_asm) (by k_asm) kp9; clear kp9; (try dsimp only)))
section
variable {w : World} {mean : ExcName → Option Value} {mg mb : Str → Option Value} {dp un : Nat} {gd : Option (List Code)} {fr : Option (List Env)} {s : Shared} {Q E : Value → Shared → Prop}
theorem encode_d {ns : List Int} {tb : Tok} (X : (pre.heap_1 w.params).In s.heap) (T : Top topProg LS mean mg mb s.heap) (hdp : dp + 3 < recursionLimit) (hun : un + 24 < cLine)
   (hin : KBa.In ns) (hn : ns.length < 100) (hn3 : ns.length % 3 = 0)
   (hret : ∀ t h' tk', Keeps s.heap h' → Q (.bytes (byteArr (encS ns).2.2) t) { s with heap := h', toks := tk' }) :
   wpAny (model PySem.Challenge.rw_pa0046_01.row.prog w) (Ar dp un gd fr) (call (.ref 94) [Value.bytes (byteArr ns) tb]) Q E s := by
  walk_at "m_enter"
  walk_at "m_steps"
  rename Fr _ _ _ _ => F'
  exact hret _ _ _ F'.keep
theorem encode_c {ns : List Int} {w0 w1 : Int} {tb ta : Tok} (X : (pre.heap_1 w.params).In s.heap) (T : Top topProg LS mean mg mb s.heap) (hdp : dp + 3 < recursionLimit) (hun : un + 24 < cLine)
   (hin : KBa.In ns) (hn : ns.length < 100) (hn3 : ns.length % 3 = 0)
   (hret : ∀ t h' tk', Keeps s.heap h' → Q (.bytes (byteArr ((encS ns).2.2.map (trF 43 47 w0 w1))) t) { s with heap := h', toks := tk' }) :
   wpAny (model PySem.Challenge.rw_pa0046_01.row.prog w) (Ar dp un gd fr) (call (.ref 94) [Value.bytes (byteArr ns) tb, Value.bytes (byteArr [w0, w1]) ta]) Q E s := by
  have hlen : (encS ns).2.2.length < 400 := by have := (encS_ok ns).len; omega
  walk_at "m_enter"
  walk_at "m_steps"
  · rename Fr _ _ _ _ => F'
    have e := tr_byteArr (f0 := 43) (f1 := 47) (x0 := w0) (x1 := w1) (encS_in ns) (by decide) (by decide)
    have e2 : byteArr [43, 47] = #[43, 47] := rfl
    rw [e2] at e
    rw [e]
    exact hret _ _ _ F'.keep
  · exact absurd rfl (by assumption)
theorem decode_c {ns : List Int} {r0 r1 : Int} {tb ta : Tok} (X : (pre.heap_1 w.params).In s.heap) (T : Top topProg LS mean mg mb s.heap) (hdp : dp + 3 < recursionLimit) (hun : un + 24 < cLine)
   (hin : KBa.In ns) (hn : ns.length < 100) (hr : KBa.In [r0, r1]) (hne : ∀ c ∈ ns.map (trF r0 r1 43 47), c ≠ 61) (hq : (decS (ns.map (trF r0 r1 43 47))).1 = 0)
   (hret : ∀ t h' tk', Keeps s.heap h' → Q (.bytes (byteArr (decS (ns.map (trF r0 r1 43 47))).2.2) t) { s with heap := h', toks := tk' }) :
   wpAny (model PySem.Challenge.rw_pa0046_01.row.prog w) (Ar dp un gd fr) (call (.ref 102) [Value.bytes (byteArr ns) tb, Value.bytes (byteArr [r0, r1]) ta]) Q E s := by
  have hlen : ns.length < 400 := by omega
  have e := tr_byteArr (f0 := r0) (f1 := r1) (x0 := 43) (x1 := 47) hin (hr _ (by simp)) (hr _ (by simp))
  have e2 : byteArr [43, 47] = #[43, 47] := rfl
  rw [e2] at e
  have hin2 : KBa.In (ns.map (trF r0 r1 43 47)) := trF_in hin (by intro n hn; simp only [List.mem_cons, List.not_mem_nil, or_false] at hn; omega)
  have hn2 : (ns.map (trF r0 r1 43 47)).length < 100 := by rw [List.length_map]; exact hn
  walk_at "m_enter"
  walk_at "m_steps"
  · rename Fr _ _ _ _ => F'
    exact hret _ _ _ F'.keep
  · exact absurd rfl (by assumption)
end
theorem anew_Enc : True := by
  w_top off
  k_with_none
  trivial
set_option maxHeartbeats 1000000
namespace En
open Builtin Builtin._codecs
theorem road_ascii (id : String) (self : Value) (x : Str) (errors : Option Str) : encodeRoad id self x (Str.ofString "ascii") errors = (do mkBytes (← encodeNarrow id asciiCodec errors self x)) := by
  first | rfl | (unfold encodeRoad; rfl) | (unfold encodeRoad; simp only []; rfl) | decide
open Builtin.Str in
theorem cod (u : Tok) : codecArg "str.encode" "encode" "'encoding'" (some (.str (Str.ofString "ascii") u)) = pure (some (Str.ofString "ascii")) := by
  first | rfl | kernel_rfl
open Builtin.Str in
theorem tree2 (x : Str) (t u : Tok) : «str.encode» ⟨[.str x t, .str (Str.ofString "ascii") u], []⟩ = (do ret (← encodeRoad "str.encode" (.str x t) x (Str.ofString "ascii") none)) := by
  show (strSelf ⟨[.str x t, .str (Str.ofString "ascii") u], []⟩ >>= _) = _
  have e1 : strSelf ⟨[.str x t, .str (Str.ofString "ascii") u], []⟩ = pure (.str x t, x, [.str (Str.ofString "ascii") u]) := rfl
  rw [e1, pure_bind]
  dsimp only
  have e2 : bindOptional "str.encode" "encode" 0 ["encoding", "errors"] [.str (Str.ofString "ascii") u] [] = pure [some (.str (Str.ofString "ascii") u), none] := by first | rfl | kernel_rfl
  rw [e2, pure_bind]
  dsimp only
  rw [cod, pure_bind]
  rfl
theorem narrow2 {a b : Nat} (ha : a < 128) (hb : b < 128) (id : String) (self : Value) : encodeNarrow id asciiCodec none self ⟨#[a, b]⟩ = pure #[a.toUInt8, b.toUInt8] := by
  have h1 : asciiCodec.bad a = false := by simp [asciiCodec]; omega
  have h2 : asciiCodec.bad b = false := by simp [asciiCodec]; omega
  unfold encodeNarrow
  have e0 : ∀ β (m : Type → Type) [Monad m] (x : β) (f : Nat → β → m (ForInStep β)), forIn [0 : (2:Nat)] x f = forIn [0, 1] x f := by
    intro β m _ x f
    rw [Std.Legacy.Range.forIn_eq_forIn_range']
    rfl
  show (forIn [0 : (2:Nat)] _ _ >>= _) = _
  have ex : ((#[a, b] : Array Nat).extract 0 (#[a, b] : Array Nat).size) = #[a, b] := rfl
  have ef : ((#[a, b] : Array Nat).findIdx? asciiCodec.bad) = none := by simp [h1, h2]
  rw [e0, List.forIn_cons]
  dsimp only
  rw [if_neg (by rw [sizeLine_eq]; decide)]
  rw [show (#[a, b] : Array Nat)[0]? = some a from rfl]
  dsimp only
  rw [if_pos (by rw [h1]; rfl), ex, ef, pure_bind]
  dsimp only
  rw [List.forIn_cons]
  dsimp only
  rw [if_neg (by rw [sizeLine_eq]; exact (by decide : ¬ (2 > 16777216)))]
  rw [show (#[a, b] : Array Nat)[0 + Option.getD none (#[a, b] : Array Nat).size]? = none from rfl]
  rw [pure_bind, pure_bind]
  rfl
theorem meets {a b : Nat} (ha : a < 128) (hb : b < 128) {t u : Tok} :
    Meets («str.encode» ⟨[.str ⟨#[a, b]⟩ t, .str (Str.ofString "ascii") u], []⟩) (fun _ R s => R (.ok (.ret (.bytes #[a.toUInt8, b.toUInt8] s.toks))) { s with toks := s.toks + 1 }) := by
  refine .of_wp fun prog w A R s hS => ?_
  rw [tree2, road_ascii, narrow2 ha hb]
  refine wpAny_bind (wpAny_bind (wpAny_pure (wpAny_mkBytes ?_ (by rw [sizeLine_eq]; exact (by decide : 2 ≤ 16777216)))))
  exact wpAny_pure ⟨_, rfl, hS⟩
section
variable {prog : Program} {w : World} {A : Around} {E : Value → Shared → Prop} {s : Shared} {Q : Value → Shared → Prop} {t u : Tok}
theorem call_enc {a b : Nat} (ha : a < 128) (hb : b < 128) (h : Q (.bytes #[a.toUInt8, b.toUInt8] s.toks) { s with toks := s.toks + 1 }) : wpAny (model prog w) A (call (.builtin "str.encode") [.str ⟨#[a, b]⟩ t, .str (Str.ofString "ascii") u]) Q E s :=
  call_meets PySem.F.slot_str_encode (typeIs_str _ _ _) PySem.F.entry_str_encode (PySem.F.args_str_encode_2 _ _) (meets ha hb) h
end
theorem method_enc {M : Model} {A : Around} {E : Value → Shared → Prop} {s : Shared} {x : Str} {t : Tok} {pl : Sem Bool} {Q : Value × List Value → Shared → Prop} (h : Q (.builtin "str.encode", [.str x t]) s) : wpAny M A (getMethod (.str x t) "encode" pl) Q E s := by
  with_reducible exact GM.of (.str x t) (typeIs_str _ _ _) F.slot_str_encode F.type_str_encode GM.noRef h
end En
def str2 (a b : Int) : Str := ⟨#[a.toNat, b.toNat]⟩
theorem call_enc2 {prog : Program} {w : World} {A : Around} {E : Value → Shared → Prop} {s : Shared} {Q : Value → Shared → Prop} {t u : Tok} {a b : Int} (ha : 0 ≤ a ∧ a < 128) (hb : 0 ≤ b ∧ b < 128) (h : Q (.bytes (byteArr [a, b]) s.toks) { s with toks := s.toks + 1 }) :
    wpAny (model prog w) A (call (.builtin "str.encode") [.str (str2 a b) t, .str (Str.ofString "ascii") u]) Q E s :=
  En.call_enc (by omega) (by omega) h
local macro_rules | `(tactic| walk_at "getMethod str") => `(tactic| (k_here; (with_reducible refine En.method_enc ?_)))
local macro_rules | `(tactic| walk_at "call builtin:str.encode") => `(tactic| (k_here; refine call_enc2 (by assumption) (by assumption) ?_))
theorem anew_F12 : True := by
  w_top off
  k_with_none
  trivial
set_option maxHeartbeats 1000000
theorem fill12 : PySem.Challenge.rw_pa0046_01.row.prog = PySem.Challenge.rw_pa0046_01.row.prog ∧ Mine.pre.heap_1 = Mine.pre.heap_1 := by
  k_fill
  exact ⟨rfl, rfl⟩
/-- bytes values -/
inductive BytesAre : List Value → List (List Int) → Prop
  | nil : BytesAre [] []
  | cons (b : List Int) (t : Tok) {vs : List Value} {bs : List (List Int)} (r : BytesAre vs bs) : BytesAre (.bytes (byteArr b) t :: vs) (b :: bs)
theorem BytesAre.snoc {b : List Int} {t : Tok} : ∀ {vs : List Value} {bs : List (List Int)}, BytesAre vs bs → BytesAre (vs ++ [.bytes (byteArr b) t]) (bs ++ [b])
  | _, _, .nil => .cons b t .nil
  | _, _, .cons c u r => .cons c u r.snoc
theorem BytesAre.length {vs : List Value} {bs : List (List Int)} (h : BytesAre vs bs) : vs.length = bs.length := by
  induction h with
  | nil => rfl
  | cons _ _ _ ih => simp [ih]
def decF (octs : List Int) (w0 w1 r0 r1 : Int) : Int × Int × List Int := decS (((encS octs).2.2.map (trF 43 47 w0 w1)).map (trF r0 r1 43 47))
structure StepOk (octs : List Int) (w0 w1 r0 r1 : Int) (octs' : List Int) : Prop where
  inn : KBa.In octs
  len : octs.length < 48
  m3 : octs.length % 3 = 0
  ne61 : ∀ c ∈ ((encS octs).2.2.map (trF 43 47 w0 w1)).map (trF r0 r1 43 47), c ≠ 61
  q0 : (decF octs w0 w1 r0 r1).1 = 0
  out : octs' = (decF octs w0 w1 r0 r1).2.2
abbrev stepQual : Str := Str.ofString "_law_led.<locals>.step"
/-- the code table of _law_led: bare, or with the nested def's code -/
def TabOk (h : Heap) (o : Obj) : Prop := o = tabObj #[] ∨ ∃ c', o = tabObj #[rawInt 209, rawInt 4, .ref c'] ∧ h.CodeRec (.ref c') stepQual
abbrev adr2 {h₀ h : Heap} {L a : Addr} {o : Obj} {p : Addr × Obj} {r : List (Addr × Obj)} (_ : News h₀ L h (p :: (a, o) :: r)) : Addr := a
abbrev adr3 {h₀ h : Heap} {L a : Addr} {o : Obj} {p q : Addr × Obj} {r : List (Addr × Obj)} (_ : News h₀ L h (p :: q :: (a, o) :: r)) : Addr := a
theorem recHide {h : Heap} {P : Addr} {ps : Array Value} {cd : Value} {q : Str} (x : h.CodeRec cd q) (hP : h.get? P = some (tabObj ps)) (hps : ps[1]? = none ∨ ∃ i, ps[1]? = some (.int i 0)) : (hideAll h [P]).CodeRec cd q := by
  obtain ⟨c, o, vs, t, e, g, hd, hv⟩ := x
  refine ⟨c, o, vs, t, e, hideAll_get _ g fun hm => ?_, hd, hv⟩
  rw [List.mem_singleton.mp hm, hP] at g
  cases g
  cases hd
  rcases hps with q | ⟨i, q⟩
  · rw [q] at hv; cases hv
  · rw [q] at hv; cases hv
theorem listUp {h h' : Heap} {a : Addr} {its : Array Value} (k : Keeps h h') (x : h.IsList a its) : h'.IsList a its := let ⟨o, e, r⟩ := x; ⟨o, k _ _ e, r⟩
theorem listHide {h : Heap} {a P : Addr} {its ps : Array Value} (x : h.IsList a its) (hP : h.get? P = some (tabObj ps)) : (hideAll h [P]).IsList a its := by
  obtain ⟨o, e, hc, r⟩ := x
  refine ⟨o, hideAll_get _ e fun hm => ?_, hc, r⟩
  rw [List.mem_singleton.mp hm, hP] at e
  cases e
  cases hc
theorem tupUp {h h' : Heap} {a : Addr} {its : Array Value} (k : Keeps h h') (x : IsTup h a its) : IsTup h' a its := let ⟨o, e, r⟩ := x; ⟨o, k _ _ e, r⟩
theorem tupHide {h : Heap} {a P : Addr} {its ps : Array Value} (x : IsTup h a its) (hP : h.get? P = some (tabObj ps)) : IsTup (hideAll h [P]) a its := by
  obtain ⟨o, e, hc, r⟩ := x
  refine ⟨o, hideAll_get _ e fun hm => ?_, hc, r⟩
  rw [List.mem_singleton.mp hm, hP] at e
  cases e
  cases hc
local macro_rules | `(tactic| walk_at "call ref") => `(tactic| (k_here; (show wpAny _ _ (call (Value.ref 94) [Value.bytes (byteArr _) _, Value.bytes (byteArr [_, _]) _]) _ _ _); k_dflt (refine' encode_c ?k1 ?k2 ?k3 ?k4 ?k5 ?k6 ?k7 ?_; (case k1 => k_in); (case k2 => walk_at "m_top"); (case k3 => ktr_room); (case k4 => ktr_units); (case k5 => assumption); (case k6 => assumption); (case k7 => assumption)); k_whole; intro t9 h9 tk9 kp9; obtain ⟨F9, N9⟩ := back (by k_asm) (by k_asm) kp9; clear kp9; (try dsimp only)))
local macro_rules | `(tactic| walk_at "call ref") => `(tactic| (k_here; (show wpAny _ _ (call (Value.ref 102) [Value.bytes (byteArr _) _, Value.bytes (byteArr [_, _]) _]) _ _ _); k_dflt (refine' decode_c ?k1 ?k2 ?k3 ?k4 ?k5 ?k6 ?k7 ?k8 ?k9 ?_; (case k1 => k_in); (case k2 => walk_at "m_top"); (case k3 => ktr_room); (case k4 => ktr_units); (case k5 => assumption); (case k6 => assumption); (case k7 => assumption); (case k8 => assumption); (case k9 => assumption)); k_whole; intro t9 h9 tk9 kp9; obtain ⟨F9, N9⟩ := back (by k_asm) (by k_asm) kp9; clear kp9; (try dsimp only)))
theorem last_item {prog : Program} {w : World} {A : Around} {E : Value → Shared → Prop} {s : Shared} {value slice : PySem.Expr} {l : Addr} {its : Array Value} {x : Value} {u : Tok} {Q : Value → Shared → Prop} (hl : s.heap.IsList l (its.push x)) (h : Q x s)
    (hs : subscripted slice false (.ref l) (.int (-1) u) = operate [.ref l, .int (-1) u] (getItem (.ref l) (.int (-1) u)) := by with_unfolding_all rfl) : wpAny (model prog w) A (subscriptTail value slice (.ref l) (.int (-1) u)) Q E s :=
  tail_any hl.typeIs slot_list_getitem.lookup (wpAny_getItem_list_neg hl (by decide) (by simp only [Array.size_push]; omega) (by decide) (by
    have e : (-1 + ((its.push x).size : Int)).toNat = its.size := by rw [Array.size_push]; omega
    rw [e]; simp) h) hs
local macro_rules | `(tactic| walk_at "subscriptTail") => `(tactic| (k_here; (with_reducible show wpAny _ _ (subscriptTail _ _ (Value.ref _) (Value.int (-1) _)) _ _ _); (with_unfolding_all refine' last_item ?k1 ?_ ?k6; (case k1 => exact News.isList (by k_asm) (by k_mem)); (case k6 => with_unfolding_all rfl); k_whole)))
theorem news3 {h₀ h h' : Heap} {L d : Addr} {p q : Addr × Obj} {o o' : Obj} {r : List (Addr × Obj)} (N : News h₀ L h (p :: q :: (d, o) :: r)) (k : KeepsOff d h h') (hd : h'.get? d = some o') (h1 : p.1 ≠ d) (h2 : q.1 ≠ d) (h3 : ∀ x ∈ r, x.1 ≠ d) : News h₀ L h' (p :: q :: (d, o') :: r) := by
  intro x hx
  rcases List.mem_cons.mp hx with rfl | hx
  · exact ⟨k _ _ h1 (N _ (.head _)).1, (N _ (.head _)).2⟩
  · rcases List.mem_cons.mp hx with rfl | hx
    · exact ⟨k _ _ h2 (N _ (.tail _ (.head _))).1, (N _ (.tail _ (.head _))).2⟩
    · rcases List.mem_cons.mp hx with rfl | hx
      · exact ⟨hd, (N (d, o) (.tail _ (.tail _ (.head _)))).2⟩
      · have := N x (.tail _ (.tail _ (.tail _ hx)))
        exact ⟨k _ _ (h3 x hx) this.1, this.2⟩
theorem news2 {h₀ h h' : Heap} {L d : Addr} {p : Addr × Obj} {o o' : Obj} {r : List (Addr × Obj)} (N : News h₀ L h (p :: (d, o) :: r)) (k : KeepsOff d h h') (hd : h'.get? d = some o') (h1 : p.1 ≠ d) (h3 : ∀ x ∈ r, x.1 ≠ d) : News h₀ L h' (p :: (d, o') :: r) := by
  intro x hx
  rcases List.mem_cons.mp hx with rfl | hx
  · exact ⟨k _ _ h1 (N _ (.head _)).1, (N _ (.head _)).2⟩
  · rcases List.mem_cons.mp hx with rfl | hx
    · exact ⟨hd, (N (d, o) (.tail _ (.head _))).2⟩
    · have := N x (.tail _ (.tail _ hx))
      exact ⟨k _ _ (h3 x hx) this.1, this.2⟩
theorem hide_none1 {h : Heap} {P b : Addr} (e : (hideAll h [P]).get? b = none) (hb : b ≠ P) : h.get? b = none := by
  cases q : h.get? b with
  | none => rfl
  | some o => rw [hideAll_get _ q fun hm => hb (List.mem_singleton.mp hm)] at e; cases e
theorem news_ne {h : Heap} {a b : Addr} {o o' : Obj} (e : h.get? a = some o) (e' : h.get? b = some o') (n : o ≠ o') : a ≠ b := fun q => n (by rw [q, e'] at e; exact (Option.some.inj e).symm)
section
variable {w : World} {mean : ExcName → Option Value} {mg mb : Str → Option Value} {dp un : Nat} {gd : Option (List Code)} {fr : Option (List Env)} {s : Shared} {Q E : Value → Shared → Prop}
theorem led_c {h₀ : Heap} {oT : Obj} {a : Addr} {refs : List Addr} {tt : Tok} (o : Nat → List Int) (X₀ : (pre.heap_1 w.params).In h₀) (T₀ : Top topProg LS mean mg mb h₀) (C₀ : CodeHd h₀ 159 155) (k₀ : Keeps h₀ s.heap) (hn : h₀.get? 155 = none) (h155 : s.heap.get? 155 = some oT) (hT : TabOk s.heap oT)
   (hdp : dp + 6 < recursionLimit) (hun : un + 64 < cLine)
   (ha : s.heap.IsList a (refs.map Value.ref).toArray) (hl : refs.length < 20)
   (hst : ∀ (i : Nat) r, refs[i]? = some r → ∃ w0 w1 r0 r1 t1 t2, IsTup s.heap r #[.str (str2 w0 w1) t1, .str (str2 r0 r1) t2] ∧ (0 ≤ w0 ∧ w0 < 128) ∧ (0 ≤ w1 ∧ w1 < 128) ∧ (0 ≤ r0 ∧ r0 < 128) ∧ (0 ≤ r1 ∧ r1 < 128) ∧ StepOk (o i) w0 w1 r0 r1 (o (i + 1)))
   (hret : ∀ r tr us k t h' tk' oT', KeepsOff 155 s.heap h' → s.heap.get? r = none → s.heap.get? tr = none → r ≠ tr → h'.get? r = some { cls := Value.type "tuple", data := Data.seq #[Value.ref tr, Value.bytes (byteArr (o refs.length)) t] } → h'.get? tr = some (W.listOf us.toArray k) → BytesAre us ((List.range refs.length).map fun i => o (i + 1)) → h'.get? 155 = some oT' → TabOk h' oT' → Q (.ref r) { s with heap := h', toks := tk' }) :
   wpAny (model PySem.Challenge.rw_pa0046_01.row.prog w) (Ar dp un gd fr) (call (.ref 160) [Value.bytes (byteArr (o 0)) tt, Value.ref a]) Q E s := by
  have k9 : Keeps h₀ (hideAll s.heap [155]) := hide_base k₀ (fun b hb => by rw [List.mem_singleton.mp hb]; exact hn)
  have X := X₀.keeps k9
  have T := T₀.keeps k9
  have C : CodeHd (hideAll s.heap [155]) 159 155 := C₀.keeps k9
  have kg : Keeps (hideAll s.heap [155]) s.heap := hide_keeps
  have hgs : (hideAll s.heap [155]).objs.size ≤ s.heap.objs.size := hide_le
  have Nh : ∀ q ∈ [((155 : Addr), oT)], s.heap.get? q.1 = some q.2 ∧ (hideAll s.heap [155]).get? q.1 = none := fun q hq => by
    rw [List.mem_singleton.mp hq]
    exact ⟨h155, hideAll_none _ (.head _)⟩
  have hab : (hideAll s.heap [155]).IsList a (refs.map Value.ref).toArray := by
    rcases hT with rfl | ⟨c', rfl, hcr⟩
    · exact listHide ha h155
    · exact listHide ha h155
  rcases hT with rfl | ⟨c9, rfl, hcr⟩
  · walk_at "m_enterCG"

    repeat ((fail_if_success (with_reducible show wpAny _ _ (call (Value.ref 111) _) _ _ _)); first | walk1 | (dsimp only; walk1))
    rename News _ _ _ _ => N9
    rename Fr _ _ _ _ => F9
    obtain ⟨f9, hf9⟩ : ∃ x, x = adr1 N9 := ⟨_, rfl⟩
    obtain ⟨l9, hl9⟩ : ∃ x, x = adr3 N9 := ⟨_, rfl⟩
    obtain ⟨L9, hL9⟩ : ∃ x, x = frAt F9 := ⟨_, rfl⟩
    dsimp only [adr1, adr3, frAt] at hf9 hl9 hL9
    subst hf9 hl9 hL9
    rename _ = Data.fields _ => d9
    rename _ = some (Value.str _ _) => v9
    obtain ⟨c9, hc9⟩ : ∃ x, x = adr2 N9 := ⟨_, rfl⟩
    dsimp only [adr2] at hc9
    subst hc9
    have hcr9 : Heap.CodeRec _ (.ref c9) stepQual := codeRec_news N9 (.tail _ (.head _)) d9 v9
    have hlf : @LT.lt Nat _ l9 f9 := by omega
    have hLl : @LT.lt Nat _ (L9 + 1) l9 := by omega
    have hlc : @LT.lt Nat _ l9 c9 := by omega
    have hPl : @LT.lt Nat _ 155 l9 := by omega
    have hLf : @LT.lt Nat _ (L9 + 1) f9 := by omega
    have e1 := (N9 _ (.head _)).1
    have e3 := (N9 _ (.tail _ (.tail _ (.head _)))).1
    have e4 := (N9 _ (.tail _ (.tail _ (.tail _ (.head _))))).1
    have e5 := (N9 _ (.tail _ (.tail _ (.tail _ (.tail _ (.head _)))))).1
    have n3 := (N9 _ (.tail _ (.tail _ (.head _)))).2
    have n4 := (N9 _ (.tail _ (.tail _ (.tail _ (.head _))))).2
    have N1 : News _ _ _ [(l9, W.listOf #[] 0)] := fun p hp => N9 p (.tail _ (.tail _ (by rw [List.mem_singleton.mp hp]; exact .head _)))
    dsimp only at e1 e3 e4 e5
    have L3 : l9 ≠ f9 := Nat.ne_of_lt hlf
    have L4 : L9 + 1 ≠ l9 := Nat.ne_of_lt hLl
    refine reduce_c (tr := l9) (otr := W.listOf #[] 0) (items := refs.map Value.ref) (fun i v ob => ∃ us k t, ob = W.listOf us.toArray k ∧ BytesAre us ((List.range i).map fun j => o (j + 1)) ∧ v = .bytes (byteArr (o i)) t) X T ?room ?units F9 N1 ?ha ?hatr ⟨_, _, _, _, e1⟩ (Ne.symm L3) ⟨[], 0, tt, rfl, .nil, rfl⟩ ?stepc ?ret
    case room => ktr_room
    case units => ktr_units
    case ha => exact listUp F9.keep hab
    case hatr =>
      intro e
      obtain ⟨ob, e2, _⟩ := hab
      have := n3.2
      dsimp only at this
      rw [← e, e2] at this
      cases this
    case stepc =>
      intro i v x h ob tk dp' un' frx Q' E' hx hInv htr hK hdp' hun' hq
      obtain ⟨us, k, t, rfl, hus, rfl⟩ := hInv
      obtain ⟨r, hr, rfl⟩ : ∃ r, refs[i]? = some r ∧ x = .ref r := by
        rw [List.getElem?_map] at hx
        cases hq : refs[i]? with
        | none => rw [hq] at hx; cases hx
        | some r => rw [hq] at hx; exact ⟨r, rfl, (Option.some.inj hx).symm⟩
      obtain ⟨w0, w1, r0, r1, t1, t2, htup, hw0, hw1, hr0, hr1, ok⟩ := hst i r hr
      have kb : Keeps (hideAll s.heap [155]) (hideAll h [l9, L9 + 1]) := hide_base (fun b ob e => hK b ob (fun q => by rw [q, n3.2] at e; cases e) (F9.keep b ob e)) (fun b hb => by
        rcases List.mem_cons.mp hb with rfl | hb
        · exact n3.2
        · rw [List.mem_singleton.mp hb]; exact n4.2)
      have htup2 := tupUp kb (tupHide htup h155)
      replace X := X.keeps kb
      replace T := T.keeps kb
      replace C : CodeHd (hideAll h [l9, L9 + 1]) 159 155 := C.keeps kb
      have kg2 : Keeps (hideAll h [l9, L9 + 1]) h := hide_keeps
      have hgs2 : (hideAll h [l9, L9 + 1]).objs.size ≤ h.objs.size := hide_le
      have Nh2 : ∀ q ∈ [(l9, W.listOf us.toArray k), (L9 + 1, _)], h.get? q.1 = some q.2 ∧ (hideAll h [l9, L9 + 1]).get? q.1 = none := fun q hq => by
        rcases List.mem_cons.mp hq with rfl | hq
        · exact ⟨htr, hideAll_none _ (.head _)⟩
        · rw [List.mem_singleton.mp hq]
          exact ⟨hK _ _ L4 e4, hideAll_none _ (.tail _ (.head _))⟩
      have e1' := hK _ _ (Ne.symm L3) e1
      have hcr2 : h.CodeRec (.ref c9) stepQual := by
        obtain ⟨c, oc, vs, t, q1, q2, q3, q4⟩ := hcr9
        refine ⟨c, oc, vs, t, q1, hK _ _ (fun q => ?_) q2, q3, q4⟩
        rw [q, e3] at q2
        cases q2
        cases q3
      have hdp2 : dp' ≤ dp + 2 := hdp'
      have hun2 : un' ≤ un + 11 := hun'
      clear hdp' hun'
      have i1 : KBa.In (o i) := ok.inn
      have i2 : (o i).length < 100 := by have := ok.len; omega
      have i3 : (o i).length % 3 = 0 := ok.m3
      have i4 : KBa.In ((encS (o i)).2.2.map (trF 43 47 w0 w1)) := trF_in (encS_in _) (by intro n hn; simp only [List.mem_cons, List.not_mem_nil, or_false] at hn; omega)
      have i5 : ((encS (o i)).2.2.map (trF 43 47 w0 w1)).length < 100 := by rw [List.length_map]; have := (encS_ok (o i)).len; have := ok.len; omega
      have i6 : KBa.In [r0, r1] := by intro n hn; simp only [List.mem_cons, List.not_mem_nil, or_false] at hn; omega
      have i7 := ok.ne61
      have i8 : (decS (((encS (o i)).2.2.map (trF 43 47 w0 w1)).map (trF r0 r1 43 47))).1 = 0 := ok.q0
      have i9 : us.length < 100 := by rw [hus.length, List.length_map, List.length_range]; have := (List.getElem?_eq_some_iff.mp hr).1; omega
      clear N9 N1 F9 hst hret Nh kg hgs k9 X₀ T₀ C₀ k₀
      walk_at "m_enterX"
      walk_at "m_steps"
      rename News _ _ _ _ => N5
      rename Fr _ _ _ _ => F5
      have eo : o (i + 1) = (decS (((encS (o i)).2.2.map (trF 43 47 w0 w1)).map (trF r0 r1 43 47))).2.2 := ok.out
      simp only [List.push_toArray] at N5
      rw [← eo] at N5 ⊢
      refine hq _ _ _ _ ⟨_, _, _, rfl, ?_, rfl⟩ (N5 _ (.head _)).1 (fun b ob hb e => ?_)
      · rw [List.range_succ, List.map_append]
        exact hus.snoc
      · by_cases hb2 : b = L9 + 1
        · subst hb2
          have q := hK _ _ L4 e4
          rw [e] at q
          cases q
          exact (N5 _ (.tail _ (.head _))).1
        · refine F5.keep b ob (hideAll_get _ e fun hm => ?_)
          rcases List.mem_cons.mp hm with q | hm
          · exact hb q
          · exact hb2 (List.mem_singleton.mp hm)
    case ret =>
      rintro v ob h tk ⟨us, k, t, rfl, hus, rfl⟩ htr hK
      rw [List.length_map] at hus ⊢
      have F1 := frOff F9 hK n3.1 n3.2
      have N2 := news3 N9 hK htr (fun q => L3 q.symm) (fun q => Nat.ne_of_gt hlc q) (by
        refine List.forall_mem_cons.mpr ⟨L4, List.forall_mem_cons.mpr ⟨?_, fun _ h => nomatch h⟩⟩
        exact Nat.ne_of_lt hPl)
      clear F9 N9 N1
      walk_at "m_steps"
      rename News _ _ _ _ => N5
      rename Fr _ _ _ _ => F5
      have h5 := N5 _ (.tail _ (.tail _ (.tail _ (.tail _ (.tail _ (.head _))))))
      have hr5 := N5 _ (.head _)
      have hl5 := N5 _ (.tail _ (.tail _ (.tail _ (.head _))))
      refine hret _ l9 us k t _ _ _ (fun b ob hb e => F5.keep b ob (hideAll_get _ e fun hm => hb (List.mem_singleton.mp hm))) (hide_none1 hr5.2.2 ?_) (hide_none1 hl5.2.2 (Nat.ne_of_gt hPl)) ?_ hr5.1 hl5.1 hus h5.1 (.inr ⟨c9, rfl, codeRec_news N5 (.tail _ (.tail _ (.head _))) d9 v9⟩)
      · exact news_ne hr5.1 h5.1 (by rintro ⟨⟩)
      · exact news_ne hr5.1 hl5.1 (fun q => by injection q with q1; injection q1 with q2; exact absurd q2 (by decide))
  · have hcr8 := recHide hcr h155 (.inr ⟨4, rfl⟩)
    walk_at "m_enterCG"

    repeat ((fail_if_success (with_reducible show wpAny _ _ (call (Value.ref 111) _) _ _ _)); first | walk1 | (dsimp only; walk1))
    rename News _ _ _ _ => N9
    rename Fr _ _ _ _ => F9
    obtain ⟨f9, hf9⟩ : ∃ x, x = adr1 N9 := ⟨_, rfl⟩
    obtain ⟨l9, hl9⟩ : ∃ x, x = adr2 N9 := ⟨_, rfl⟩
    obtain ⟨L9, hL9⟩ : ∃ x, x = frAt F9 := ⟨_, rfl⟩
    dsimp only [adr1, adr2, frAt] at hf9 hl9 hL9
    subst hf9 hl9 hL9
    have hcr9 : Heap.CodeRec _ (.ref c9) stepQual := hcr8.keeps F9.keep
    have hlf : @LT.lt Nat _ l9 f9 := by omega
    have hLl : @LT.lt Nat _ (L9 + 1) l9 := by omega
    have hPl : @LT.lt Nat _ 155 l9 := by omega
    have hLf : @LT.lt Nat _ (L9 + 1) f9 := by omega
    have e1 := (N9 _ (.head _)).1
    have e3 := (N9 _ (.tail _ (.head _))).1
    have e4 := (N9 _ (.tail _ (.tail _ (.head _)))).1
    have e5 := (N9 _ (.tail _ (.tail _ (.tail _ (.head _))))).1
    have n3 := (N9 _ (.tail _ (.head _))).2
    have n4 := (N9 _ (.tail _ (.tail _ (.head _)))).2
    have N1 : News _ _ _ [(l9, W.listOf #[] 0)] := fun p hp => N9 p (.tail _ (by rw [List.mem_singleton.mp hp]; exact .head _))
    dsimp only at e1 e3 e4 e5
    have L3 : l9 ≠ f9 := Nat.ne_of_lt hlf
    have L4 : L9 + 1 ≠ l9 := Nat.ne_of_lt hLl
    refine reduce_c (tr := l9) (otr := W.listOf #[] 0) (items := refs.map Value.ref) (fun i v ob => ∃ us k t, ob = W.listOf us.toArray k ∧ BytesAre us ((List.range i).map fun j => o (j + 1)) ∧ v = .bytes (byteArr (o i)) t) X T ?room ?units F9 N1 ?ha ?hatr ⟨_, _, _, _, e1⟩ (Ne.symm L3) ⟨[], 0, tt, rfl, .nil, rfl⟩ ?stepc ?ret
    case room => ktr_room
    case units => ktr_units
    case ha => exact listUp F9.keep hab
    case hatr =>
      intro e
      obtain ⟨ob, e2, _⟩ := hab
      have := n3.2
      dsimp only at this
      rw [← e, e2] at this
      cases this
    case stepc =>
      intro i v x h ob tk dp' un' frx Q' E' hx hInv htr hK hdp' hun' hq
      obtain ⟨us, k, t, rfl, hus, rfl⟩ := hInv
      obtain ⟨r, hr, rfl⟩ : ∃ r, refs[i]? = some r ∧ x = .ref r := by
        rw [List.getElem?_map] at hx
        cases hq : refs[i]? with
        | none => rw [hq] at hx; cases hx
        | some r => rw [hq] at hx; exact ⟨r, rfl, (Option.some.inj hx).symm⟩
      obtain ⟨w0, w1, r0, r1, t1, t2, htup, hw0, hw1, hr0, hr1, ok⟩ := hst i r hr
      have kb : Keeps (hideAll s.heap [155]) (hideAll h [l9, L9 + 1]) := hide_base (fun b ob e => hK b ob (fun q => by rw [q, n3.2] at e; cases e) (F9.keep b ob e)) (fun b hb => by
        rcases List.mem_cons.mp hb with rfl | hb
        · exact n3.2
        · rw [List.mem_singleton.mp hb]; exact n4.2)
      have htup2 := tupUp kb (tupHide htup h155)
      replace X := X.keeps kb
      replace T := T.keeps kb
      replace C : CodeHd (hideAll h [l9, L9 + 1]) 159 155 := C.keeps kb
      have kg2 : Keeps (hideAll h [l9, L9 + 1]) h := hide_keeps
      have hgs2 : (hideAll h [l9, L9 + 1]).objs.size ≤ h.objs.size := hide_le
      have Nh2 : ∀ q ∈ [(l9, W.listOf us.toArray k), (L9 + 1, _)], h.get? q.1 = some q.2 ∧ (hideAll h [l9, L9 + 1]).get? q.1 = none := fun q hq => by
        rcases List.mem_cons.mp hq with rfl | hq
        · exact ⟨htr, hideAll_none _ (.head _)⟩
        · rw [List.mem_singleton.mp hq]
          exact ⟨hK _ _ L4 e4, hideAll_none _ (.tail _ (.head _))⟩
      have e1' := hK _ _ (Ne.symm L3) e1
      have hcr2 : h.CodeRec (.ref c9) stepQual := by
        obtain ⟨c, oc, vs, t, q1, q2, q3, q4⟩ := hcr9
        refine ⟨c, oc, vs, t, q1, hK _ _ (fun q => ?_) q2, q3, q4⟩
        rw [q, e3] at q2
        cases q2
        cases q3
      have hdp2 : dp' ≤ dp + 2 := hdp'
      have hun2 : un' ≤ un + 11 := hun'
      clear hdp' hun'
      have i1 : KBa.In (o i) := ok.inn
      have i2 : (o i).length < 100 := by have := ok.len; omega
      have i3 : (o i).length % 3 = 0 := ok.m3
      have i4 : KBa.In ((encS (o i)).2.2.map (trF 43 47 w0 w1)) := trF_in (encS_in _) (by intro n hn; simp only [List.mem_cons, List.not_mem_nil, or_false] at hn; omega)
      have i5 : ((encS (o i)).2.2.map (trF 43 47 w0 w1)).length < 100 := by rw [List.length_map]; have := (encS_ok (o i)).len; have := ok.len; omega
      have i6 : KBa.In [r0, r1] := by intro n hn; simp only [List.mem_cons, List.not_mem_nil, or_false] at hn; omega
      have i7 := ok.ne61
      have i8 : (decS (((encS (o i)).2.2.map (trF 43 47 w0 w1)).map (trF r0 r1 43 47))).1 = 0 := ok.q0
      have i9 : us.length < 100 := by rw [hus.length, List.length_map, List.length_range]; have := (List.getElem?_eq_some_iff.mp hr).1; omega
      clear N9 N1 F9 hst hret Nh kg hgs k9 X₀ T₀ C₀ k₀
      walk_at "m_enterX"
      walk_at "m_steps"
      rename News _ _ _ _ => N5
      rename Fr _ _ _ _ => F5
      have eo : o (i + 1) = (decS (((encS (o i)).2.2.map (trF 43 47 w0 w1)).map (trF r0 r1 43 47))).2.2 := ok.out
      simp only [List.push_toArray] at N5
      rw [← eo] at N5 ⊢
      refine hq _ _ _ _ ⟨_, _, _, rfl, ?_, rfl⟩ (N5 _ (.head _)).1 (fun b ob hb e => ?_)
      · rw [List.range_succ, List.map_append]
        exact hus.snoc
      · by_cases hb2 : b = L9 + 1
        · subst hb2
          have q := hK _ _ L4 e4
          rw [e] at q
          cases q
          exact (N5 _ (.tail _ (.head _))).1
        · refine F5.keep b ob (hideAll_get _ e fun hm => ?_)
          rcases List.mem_cons.mp hm with q | hm
          · exact hb q
          · exact hb2 (List.mem_singleton.mp hm)
    case ret =>
      rintro v ob h tk ⟨us, k, t, rfl, hus, rfl⟩ htr hK
      rw [List.length_map] at hus ⊢
      have F1 := frOff F9 hK n3.1 n3.2
      have N2 := news2 N9 hK htr (fun q => L3 q.symm) (by
        refine List.forall_mem_cons.mpr ⟨L4, List.forall_mem_cons.mpr ⟨?_, fun _ h => nomatch h⟩⟩
        exact Nat.ne_of_lt hPl)
      clear F9 N9 N1
      walk_at "m_steps"
      rename News _ _ _ _ => N5
      rename Fr _ _ _ _ => F5
      have h5 := N5 _ (.tail _ (.tail _ (.tail _ (.tail _ (.head _)))))
      have hr5 := N5 _ (.head _)
      have hl5 := N5 _ (.tail _ (.tail _ (.head _)))
      refine hret _ l9 us k t _ _ _ (fun b ob hb e => F5.keep b ob (hideAll_get _ e fun hm => hb (List.mem_singleton.mp hm))) (hide_none1 hr5.2.2 ?_) (hide_none1 hl5.2.2 (Nat.ne_of_gt hPl)) ?_ hr5.1 hl5.1 hus h5.1 (.inr ⟨c9, rfl, hcr8.keeps F5.keep⟩)
      · exact news_ne hr5.1 h5.1 (by rintro ⟨⟩)
      · exact news_ne hr5.1 hl5.1 (fun q => by injection q with q1; injection q1 with q2; exact absurd q2 (by decide))
end
theorem anew_LBytes : True := by
  w_top off
  k_with_none
  trivial
set_option maxHeartbeats 1000000
namespace Lb
theorem bytes_len : typeLookup (.type "bytes") "__len__" = pure (some (.builtin "bytes.__len__")) := by rw [typeLookup_type, builtinLookup_eq_fast]; kernel_rfl
section
variable {prog : Program} {w : World} {A : Around} {E : Value → Shared → Prop} {s : Shared}
abbrev ByteAt (b : Array UInt8) (i : Nat) (v : Value) : Prop := ∃ c u, b[i]? = some c ∧ v = .int (c.toNat : Int) u
theorem extend_bytes {R : Result → Shared → Prop} (hh : A.handled = none) (b : Array UInt8) (t : Tok) (S : Addr) (res : Value) (c₀ : Nat) (hS : s.heap.get? S = some { cls := .type "list", data := .seq #[] c₀ })
    (hR : ∀ h' tk acc' c', (∀ b o, b ≠ S → s.heap.get? b = some o → h'.get? b = some o) → h'.get? S = some { cls := .type "list", dict := none, data := .seq acc' c', slots := #[] } →
      ItemsOf (ByteAt b) acc' b.size → R (.ok (.ret res)) { s with heap := h', toks := tk }) (hn : b.size ≤ sizeLine) :
    wpAny (model prog w) A.in1 (Builtin.List.listExtendWith (.ref S) (.bytes b t) res)
      (fun fin s' => match fin with | .done f => R (.ok f) s' | .again c' => c'.quiet = true ∧ codeAny (model prog w) A c' R s') (fun e s' => R (.error e) s') s := by
  have hSI : S ≠ s.heap.objs.size := Nat.ne_of_lt (Heap.lt_size hS)
  have hSf : S ∉ [s.heap.objs.size] := fun hm => hSI (List.mem_singleton.mp hm)
  have W := (KBw.walks (prog := prog) (w := w) (A := A.in1) hh s.heap.objs.size b t).toS
  unfold Builtin.List.listExtendWith
  refine wpAny_bind (wpAny_typeOf (T := "bytes") (v := .bytes b t) rfl ?_)
  have h1 : Builtin.List.listSameRef (.ref S) (.bytes b t) = false := rfl
  have h2 : (Value.type "bytes" == Value.type "list") = false := by decide
  have h3 : (Value.type "bytes" == Value.type "tuple") = false := by decide
  simp only [h1, h2, h3, Bool.or_false, Bool.false_eq_true, if_false]
  refine wpAny_bind (KBw.pyIter_bytes ?_)
  refine wpAny_bind (wpAny_holding ?_)
  unfold Builtin.List.listLengthHint
  refine wpAny_bind (wpAny_specialOf (T := "bytes") (v := .bytes b t) rfl bytes_len ?_)
  wp_delta
  refine wpAny_bind (wpAny_isInstance (T := "bytes") (v := .bytes b t) (b := true) rfl (by rw [isSubtype_type]; kernel_rfl) ?_)
  show wpAny _ _ (typeOf (Value.bytes b t) >>= _) _ _ _
  refine wpAny_bind (wpAny_typeOf (T := "bytes") (v := .bytes b t) rfl ?_)
  refine wpAny_pure ?_
  rw [if_neg (by decide)]
  refine wpAny_pure ⟨plainId_quiet F.plain_extend_loop _, codeAny_extend_loopS W hn S hSf res b.size 0 _ _ _ rfl (Nat.zero_le _) ⟨_, Heap.get?_push_size _ rfl, rfl, rfl⟩ (Heap.get?_push_of_some _ hS) (ItemsOf.nil _) fun s' acc' c' hm hS' hacc => ?_⟩
  rw [Moved.eq_with hm]
  refine hR s'.heap s'.toks acc' c' (fun b ob hb e => hm.heap b ob (fun hmem => ?_) (Heap.get?_push_of_some _ e)) hS' hacc
  rcases List.mem_cons.mp hmem with e' | hmem
  · exact hb e'
  · exact absurd (Heap.lt_size e) (by rw [List.mem_singleton.mp hmem]; exact Nat.lt_irrefl _)
theorem init_bytes {R : Result → Shared → Prop} (hh : A.handled = none) (b : Array UInt8) (t : Tok) (S : Addr) (hS : s.heap.get? S = some { cls := .type "list", data := .seq #[] })
    (hR : ∀ h' tk acc' c', (∀ b o, b ≠ S → s.heap.get? b = some o → h'.get? b = some o) → h'.get? S = some { cls := .type "list", dict := none, data := .seq acc' c', slots := #[] } →
      ItemsOf (ByteAt b) acc' b.size → R (.ok (.ret .none)) { s with heap := h', toks := tk }) (hn : b.size ≤ sizeLine) :
    wpAny (model prog w) A.in1 (Builtin.«list.__init__» ⟨[.ref S, .bytes b t], []⟩)
      (fun fin s' => match fin with | .done f => R (.ok f) s' | .again c' => c'.quiet = true ∧ codeAny (model prog w) A c' R s') (fun e s' => R (.error e) s') s := by
  show wpAny _ _ (do let old ← Builtin.List.listItems (.ref S); Builtin.List.listUpdate (.ref S) (fun _ => #[]); letGo old.toList.reverse; Builtin.List.listExtendWith (.ref S) (.bytes b t) .none) _ _ s
  refine wpAny_bind ?_
  unfold Builtin.List.listItems
  refine wpAny_bind (wpAny_seqItems hS rfl (wpAny_pure ?_))
  show wpAny _ _ (updateSeq S (fun _ => #[]) >>= fun _ => letGo (#[] : Array Value).toList.reverse >>= fun _ => Builtin.List.listExtendWith (.ref S) (.bytes b t) .none) _ _ s
  refine wpAny_bind (wpAny_updateSeq hS rfl ?_)
  have hS₂ := Heap.get?_update_self (Obj.mapSeq (fun _ => (#[] : Array Value))) hS rfl
  have oth : ∀ b o, b ≠ S → s.heap.get? b = some o → (s.heap.update S (Obj.mapSeq (fun _ => (#[] : Array Value)))).get? b = some o :=
    fun b o hb e => (Heap.get?_update_other _ _ (Ne.symm hb)).trans e
  refine wpAny_bind (wpAny_letGo ?_)
  refine extend_bytes (hn := hn) hh b t S .none _ hS₂ fun h' tk acc' c' hk hS' hacc => ?_
  exact hR h' tk acc' c' (fun b o hb e => hk b o hb (oth b o hb e)) hS' hacc
theorem call_list_bytes {Q : Value → Shared → Prop} (hh : A.handled = none) (b : Array UInt8) (t : Tok)
    (hQ : ∀ h' tk acc' c', (∀ b o, s.heap.get? b = some o → h'.get? b = some o) →
      h'.get? s.heap.objs.size = some { cls := .type "list", dict := none, data := .seq acc' c', slots := #[] } → ItemsOf (ByteAt b) acc' b.size → Q (.ref s.heap.objs.size) { s with heap := h', toks := tk }) (hn : b.size ≤ sizeLine) :
    wpAny (model prog w) A (call (.type "list") [.bytes b t]) Q E s := by
  refine callType_codes (Q₁ := fun obj s₁ => obj = .ref s.heap.objs.size ∧ s₁ = { s with heap := s.heap.push { cls := .type "list", data := .seq #[] } }) F.called_list (F.typeCall_list_1 _) F.entry_list_init
    (code_list_new _ ⟨rfl, rfl⟩) fun obj s₁ h₁ => ?_
  obtain ⟨rfl, rfl⟩ := h₁
  have hS : (s.heap.push { cls := .type "list", data := .seq #[] }).get? s.heap.objs.size = some { cls := .type "list", data := .seq #[] } := Heap.get?_push_size _ rfl
  refine ⟨⟨_, hS, rfl⟩, F.args_list_init_2 _ _, init_bytes (A := A.in1) (hn := hn) hh b t _ hS fun h' tk acc' c' hk hS' hacc => ?_⟩
  exact ⟨rfl, hQ h' tk acc' c' (fun b o e => hk b o (Nat.ne_of_lt (Heap.lt_size e)) (Heap.get?_push_of_some _ e)) hS' hacc⟩
end
theorem ints_of : ∀ (ns : List Int) (vs : List Value), KBa.In ns → vs.length = ns.length → (∀ (j : Nat) (v : Value), vs[j]? = some v → ∃ c u, (byteArr ns)[j]? = some c ∧ v = .int (c.toNat : Int) u) → IntsAre vs ns
  | [], [], _, _, _ => .nil
  | [], _ :: _, _, h, _ => by simp at h
  | _ :: _, [], _, h, _ => by simp at h
  | n :: ns, v :: vs, hi, hl, h => by
    obtain ⟨c, u, h1, rfl⟩ := h 0 v rfl
    have hn := hi n (.head _)
    have e : (c.toNat : Int) = n := by
      have : c = n.toNat.toUInt8 := by simpa [byteArr] using h1.symm
      rw [this]
      show (((UInt8.ofNat n.toNat).toNat : Nat) : Int) = n
      rw [UInt8.toNat_ofNat']
      omega
    rw [e]
    refine .cons _ _ (ints_of ns vs (fun m hm => hi m (.tail _ hm)) (by simpa using hl) fun j v hv => ?_)
    obtain ⟨c', u', h1', h2'⟩ := h (j + 1) v (by simpa using hv)
    exact ⟨c', u', by simpa [byteArr] using h1', h2'⟩
end Lb
theorem list_bytes {prog : Program} {w : World} {A : Around} {E : Value → Shared → Prop} {s : Shared} {h₀ : Heap} {L : Addr} {m : Str → Option Value} {news : List (Addr × Obj)} {ns : List Int} {t : Tok} {Q : Value → Shared → Prop} (hh : A.handled = none) (F : Fr h₀ L s.heap m) (N : News h₀ L s.heap news) (hi : KBa.In ns) (hn : ns.length < 400)
    (h : ∀ D c vs h' tk, Fr h₀ L h' m → News h₀ L h' ((D, W.listOf (List.toArray vs) c) :: news) → (∀ p ∈ news, p.1 < D) → IntsAre vs ns → Q (.ref D) { s with heap := h', toks := tk }) : wpAny (model prog w) A (call (.type "list") [.bytes (byteArr ns) t]) Q E s := by
  have hsz : (byteArr ns).size = ns.length := by simp [byteArr]
  refine Lb.call_list_bytes hh _ _ (fun h' tk acc' c' hk hS hI => ?_) (by rw [hsz, sizeLine_eq]; omega)
  have hI0 : h₀.get? s.heap.objs.size = none := next_is_new F
  refine h s.heap.objs.size c' acc'.toList h' tk (F.keeps hk) (fun p hp => ?_) (fun p hp => Heap.lt_size (N p hp).1) (Lb.ints_of _ _ hi (by rw [Array.length_toList, hI.1, hsz]) fun j v hv => hI.2 j v (by simpa using hv))
  rcases List.mem_cons.mp hp with rfl | hp
  · exact ⟨by simpa using hS, Ne.symm (Nat.ne_of_lt F.ns.lt), hI0⟩
  · exact ⟨hk _ _ (N p hp).1, (N p hp).2⟩
theorem anew_F13 : True := by
  w_top off
  k_with_none
  trivial
set_option maxHeartbeats 1000000
theorem fill13 : PySem.Challenge.rw_pa0046_01.row.prog = PySem.Challenge.rw_pa0046_01.row.prog ∧ Mine.pre.heap_1 = Mine.pre.heap_1 := by
  k_fill
  exact ⟨rfl, rfl⟩
local macro_rules | `(tactic| walk_at "call ref") => `(tactic| (k_here; (show wpAny _ _ (call (Value.ref 125) []) _ _ _); k_dflt (refine' letters_c ?k1 ?k2 ?k3 ?k4 ?_; (case k1 => k_in); (case k2 => exact Top.keeps (by assumption) (Fr.keep (by assumption))); (case k3 => ktr_room); (case k4 => ktr_units)); k_whole; intro x9 t9 h9 tk9 hl9 hn9 kp9; obtain ⟨F9, N9⟩ := back (by k_asm) (by k_asm) kp9; clear kp9; (try dsimp only)))
def missAt (figs led : List Int) (p : Nat) : List Int := if (figs.drop p).count (figs.getD p 0) > led.count (figs.getD p 0) then [chrOf (figs.getD p 0)] else []
def missF (figs led : List Int) : Nat → List Int
  | 0 => []
  | i + 1 => missF figs led i ++ missAt figs led (figs.length - 1 - i)
def unexAt (figs led : List Int) (p : Nat) : List Int := if (led.take (p + 1)).count (led.getD p 0) > figs.count (led.getD p 0) then [chrOf (led.getD p 0)] else []
def unexF (figs led : List Int) : Nat → List Int
  | 0 => []
  | i + 1 => unexF figs led i ++ unexAt figs led i
theorem missF_len (figs led : List Int) (i : Nat) : (missF figs led i).length ≤ i := by
  induction i with
  | zero => exact Nat.le_refl _
  | succ i ih =>
    unfold missF missAt
    rw [List.length_append]
    split
    · simp; omega
    · simp; omega
theorem down_small {figs : List Int} (h : figs.length < 10) : Builtin.Range.small ((figs.length : Int) - 1) (-1) (-1) = true := by
  have : ∀ n : Fin 10, Builtin.Range.small ((n.val : Int) - 1) (-1) (-1) = true := by decide +kernel
  exact this ⟨_, h⟩
theorem down_size {figs : List Int} : Builtin.Range.rangeSize ((figs.length : Int) - 1) (-1) (-1) = (figs.length : Int) := by
  unfold Builtin.Range.rangeSize
  rw [if_neg (by decide), show (-(-1) : Int) = 1 from rfl, Int.ediv_one]
  split <;> omega
local macro_rules | `(tactic| walk_at "subscriptTail Name Slice ref ref") => `(tactic| (k_here; (with_reducible show wpAny _ _ (subscriptTail _ (PySem.Expr.Slice (some _) none none _) (Value.ref _) (Value.ref _)) _ _ _); k_dflt (refine' kmk_slice_ints ?F ?N ?l ?p ?q ?i ?m ?c ?_ ?s ?t ?z; (case F => k_asm); (case N => k_asm); (case l => kmk_list); (case p => kmk_part); (case q => kmk_part); (case i => l_ints); (case m => exact kmk_from (by l_ints) (by omega)); (case c => kmk_len); (case s => with_unfolding_all rfl); (case t => kmk_pure); (case z => (rw [List.size_toArray, PySem.sizeLine_eq]; omega))); intro D' ws' h' F' N' l1 hI' hC' hL'; (try k_lt l1); (try k_sweep)))
theorem base_count {prog : Program} {w : World} {A : Around} {E : Value → Shared → Prop} {s : Shared} {h₀ : Heap} {L a : Addr} {m : Str → Option Value} {its : Array Value} {k : Nat} {pl : Sem Bool} {Q : Value × List Value → Shared → Prop} (F : Fr h₀ L s.heap m) (e : h₀.get? a = some (W.listOf its k)) (h : Q (.builtin "list.count", [.ref a]) s) :
    wpAny (model prog w) A (getMethod (.ref a) (Str.ofString "count") pl) Q E s :=
  getMethod_list_of PySem.F.slot_list_count PySem.F.type_list_count ⟨_, F.keep _ _ e, rfl, _, rfl⟩ ⟨_, F.keep _ _ e, rfl⟩ h
local macro_rules | `(tactic| walk_at "getMethod ref") => `(tactic| (k_here; (with_reducible show wpAny _ _ (getMethod (Value.ref _) (Str.ofString "count") _) _ _ _); k_dflt (refine' base_count ?F ?e ?_; (case F => k_asm); (case e => assumption))))
theorem let_ord {x : Str} (h : IsLet x) {f : Int} (hf : 0 ≤ f ∧ f < 64) : (((Txt.item x f).cps.getD 0 0 : Nat) : Int) = chrOf f := by
  have key : ∀ n : Fin 64, (((Txt.item LETTERS (n.val : Int)).cps.getD 0 0 : Nat) : Int) = chrOf (n.val : Int) := by decide +kernel
  have e : f = ((f.toNat : Nat) : Int) := by omega
  have := key ⟨f.toNat, by omega⟩
  rw [h, e]
  exact this
theorem miss_step {figs led ns ms : List Int} {i : Nat} (h : ns = missF figs led i) (hi : i < figs.length) (e : ms = ns ++ missAt figs led (↑figs.length - 1 + ↑i * -1 : Int).toNat) : ms = missF figs led (i + 1) := by
  rw [e, h, missF]
  have : (↑figs.length - 1 + ↑i * -1 : Int).toNat = figs.length - 1 - i := by omega
  rw [this]
theorem unex_step {figs led ns ms : List Int} {i : Nat} (h : ns = unexF figs led i) (_hi : i < led.length) (e : ms = ns ++ unexAt figs led (0 + ↑i * 1 : Int).toNat) : ms = unexF figs led (i + 1) := by
  rw [e, h, unexF]
  have : (0 + ↑i * 1 : Int).toNat = i := by omega
  rw [this]
theorem up_take {i : Nat} : (0 + (i : Int) * 1 + 1).toNat = (0 + (i : Int) * 1).toNat + 1 := by omega
theorem unexF_len (figs led : List Int) (i : Nat) : (unexF figs led i).length ≤ i := by
  induction i with
  | zero => exact Nat.le_refl _
  | succ i ih =>
    unfold unexF unexAt
    rw [List.length_append]
    split
    · simp; omega
    · simp; omega
theorem up_small {led : List Int} (h : led.length < 10) : Builtin.Range.small 0 (led.length : Int) 1 = true := by
  have : ∀ n : Fin 10, Builtin.Range.small 0 (n.val : Int) 1 = true := by decide +kernel
  exact this ⟨_, h⟩
theorem up_size {led : List Int} : Builtin.Range.rangeSize 0 (led.length : Int) 1 = (led.length : Int) := by
  unfold Builtin.Range.rangeSize
  rw [if_pos (by decide), Int.ediv_one]
  split <;> omega
/-- the end of a turn that has filled one list of ints, with more kept behind it -/
theorem kend1t {x : Str} {h₀ : Heap} {tl : List (Addr × Obj)} {stored : List Str} {m₀ : Str → Option Value} {P : List Int → List Value × List Int × Nat → Prop} {pre : List Int} {l L : Addr} {m' : Str → Option Value} {own : List (Addr × Obj)} {s₁ : Shared} {h' : Heap} {tk k : Nat} {us : List Value} {ms : List Int}
    (F : Fr h₀ L h' m') (N : News h₀ L h' ((l, W.listOf us.toArray k) :: (tl ++ own))) (hi : IntsAre us ms) (hr : ∀ z, z ≠ x → (∀ p ∈ ([] : List (Str × Value)), z ≠ p.1) → stored.contains z = false → m' z = m₀ z) (hp : P pre (us, ms, k)) :
    InvEndN h₀ L (KstS (fun c : List Value × List Int × Nat => (l, W.listOf c.1.toArray c.2.2) :: tl) (fun _ => []) (fun c => IntsAre c.1 c.2.1) x stored m₀ P pre) own (l :: tl.map (·.1)) s₁ { s₁ with heap := h', toks := tk } :=
  kst_end (us, ms, k) F N (fun p hp => by
    rcases List.mem_cons.mp hp with rfl | hp
    · exact .head _
    · exact .tail _ (List.mem_append_left _ hp)) (fun _ hp => .tail _ (List.mem_append_right _ hp)) rfl hi (List.forall_mem_nil _) hr hp
local macro_rules | `(tactic| walk_at "call type:list") => `(tactic| (k_here; (with_reducible show wpAny _ _ (call (Value.type _) [Value.bytes (byteArr _) _]) _ _ _); k_dflt (refine' list_bytes ?hh ?F ?N ?i ?n ?_; (case hh => rfl); (case F => k_asm); (case N => k_asm); (case i => assumption); (case n => assumption)); intro D' c' ws' h' tk' F' N' l1 hI'; (try k_lt l1); (try k_sweep)))
local macro_rules | `(tactic| walk_at "call ref") => `(tactic| (k_here; (show wpAny _ _ (call (Value.ref 94) [Value.bytes (byteArr _) _]) _ _ _); k_dflt (refine' encode_d ?k1 ?k2 ?k3 ?k4 ?k5 ?k6 ?k7 ?_; (case k1 => k_in); (case k2 => walk_at "m_top"); (case k3 => ktr_room); (case k4 => ktr_units); (case k5 => assumption); (case k6 => assumption); (case k7 => assumption)); k_whole; intro t9 h9 tk9 kp9; obtain ⟨F9, N9⟩ := back (by k_asm) (by k_asm) kp9; clear kp9; (try dsimp only)))
abbrev adr2b {h₀ h : Heap} {L a : Addr} {o : Obj} {p : Addr × Obj} {r : List (Addr × Obj)} (_ : News h₀ L h (p :: (a, o) :: r)) : Addr := a
abbrev frOfB {h₀ h : Heap} {L : Addr} {m : Str → Option Value} (_ : Fr h₀ L h m) : Addr := L
theorem frDown {g h₁ h : Heap} {L : Addr} {m : Str → Option Value} (F : Fr h₁ L h m) (k : Keeps g h₁) (hs : g.objs.size ≤ h₁.objs.size) : Fr g L h m := ⟨F.ns, fun b o e => F.keep b o (k b o e), Nat.le_trans hs F.above⟩
theorem newsDown {g h₁ h : Heap} {L : Addr} {m : Str → Option Value} {news frs : List (Addr × Obj)} (F : Fr h₁ L h m) (N : News h₁ L h news) (k : Keeps g h₁) (Nh : ∀ q ∈ frs, h₁.get? q.1 = some q.2 ∧ g.get? q.1 = none) : News g L h (news ++ frs) := fun p hp => by
  rcases List.mem_append.mp hp with hp | hp
  · obtain ⟨x1, x2, x3⟩ := N p hp
    refine ⟨x1, x2, ?_⟩
    cases q : g.get? p.1 with
    | none => rfl
    | some o => rw [k _ _ q] at x3; cases x3
  · obtain ⟨y1, y2⟩ := Nh p hp
    exact ⟨F.keep _ _ y1, fun e => absurd (Heap.lt_size y1) (by rw [e]; exact Nat.not_lt_of_le F.above), y2⟩
theorem news_sw {h₀ h : Heap} {L : Addr} {x y : Addr × Obj} {r : List (Addr × Obj)} (N : News h₀ L h (x :: y :: r)) : News h₀ L h (y :: x :: r) := fun p hp => N p (by
  rcases List.mem_cons.mp hp with rfl | hp
  · exact .tail _ (.head _)
  · rcases List.mem_cons.mp hp with rfl | hp
    · exact .head _
    · exact .tail _ (.tail _ hp))
theorem ints_shaped (ns ms : List Int) : SeqAt.shaped (.tuple [.list (ns.map .int), .list (ms.map .int)]) = true := by
  simp [SeqAt.shaped, PyData.canLay0, PyData.canLayAll0, PyData.depth, PyData.depthAll, ke_canLayAll0, ke_depthAll]
theorem ints_eqv (ns ms : List Int) : PyData.eqv (.tuple [.list (ns.map .int), .list (ms.map .int)]) (.tuple [.list (ns.map .int), .list (ms.map .int)]) = true := by
  simp [PyData.eqv, PyData.eqvAll, ked_eqvAll]
section
variable {w : World} {mean : ExcName → Option Value} {mg mb : Str → Option Value} {dp un : Nat} {gd : Option (List Code)} {l : List Env} {s : Shared} {Q E : Value → Shared → Prop}
theorem bags_c {g : Heap} {a b : Addr} {vs us : List Value} {figs led fo lo : List Int} {frs : List (Addr × Obj)} {tf tl : Tok} (X₀ : (pre.heap_1 w.params).In g) (T₀ : Top topProg LS mean mg mb g) (kg : Keeps g s.heap) (hgs : g.objs.size ≤ s.heap.objs.size)
   (Nh : ∀ q ∈ frs, s.heap.get? q.1 = some q.2 ∧ g.get? q.1 = none) (Fs : TI.Frs l frs) (hdp : dp + 6 < recursionLimit) (hun : un + 128 < cLine)
   {ka kb : Nat} (ha₀ : g.get? a = some (W.listOf vs.toArray ka)) (hv : IntsAre vs figs) (hb₀ : g.get? b = some (W.listOf us.toArray kb)) (hu : IntsAre us led) (hFf : Figs figs) (hFd : Figs led) (hfl : figs.length < 10) (hdl : led.length < 10)
   (hfi : KBa.In fo) (hfn : fo.length < 20) (hfm : fo.length % 3 = 0) (hli : KBa.In lo) (hln : lo.length < 20) (hlm : lo.length % 3 = 0)
   (hp : uRes (encS fo).2.2 (encS lo).2.2 = (missF figs led figs.length, unexF figs led led.length))
   (hret : ∀ frs' h' tk', TI.SameUp frs frs' → (∀ q ∈ frs', h'.get? q.1 = some q.2) → Keeps g h' → Q (.bool true) { s with heap := h', toks := tk' }) :
   wpAny (model PySem.Challenge.rw_pa0046_01.row.prog w) (Ar dp un gd (some l)) (call (.ref 167) [Value.ref a, Value.ref b, Value.bytes (byteArr fo) tf, Value.bytes (byteArr lo) tl]) Q E s := by
  have X := X₀.keeps kg
  have T := T₀.keeps kg
  have ha1 := kg _ _ ha₀
  have hb1 := kg _ _ hb₀
  have ha : s.heap.IsList a vs.toArray := ⟨_, ha1, rfl, _, rfl⟩
  have hb : s.heap.IsList b us.toArray := ⟨_, hb1, rfl, _, rfl⟩
  have hvl : vs.length < 10 := by rw [hv.length]; exact hfl
  have hul : us.length < 10 := by rw [hu.length]; exact hdl
  have q1 : fo.length < 100 := by omega
  have q2 : lo.length < 100 := by omega
  have q3 : KBa.In (encS fo).2.2 := encS_in fo
  have q4 : KBa.In (encS lo).2.2 := encS_in lo
  have q5 : (encS fo).2.2.length < 400 := by have := (encS_ok fo).len; omega
  have q6 : (encS lo).2.2.length < 400 := by have := (encS_ok lo).len; omega
  walk_at "m_enter"
  walk_at "m_to"
  rename News _ _ _ _ => N9
  rename Fr _ _ _ _ => F9
  rename IsRange _ _ _ _ _ _ _ _ => R9
  rename IsLet _ => hlet
  obtain ⟨l9, hl9⟩ : ∃ l, l = adr1 N9 := ⟨_, rfl⟩
  dsimp only [adr1] at hl9
  subst hl9
  obtain ⟨x9, hx9⟩ : ∃ l, l = letOf hlet := ⟨_, rfl⟩
  dsimp only [letOf] at hx9
  subst hx9
  refine rng_loop (n := figs.length) (fun c : List Value × List Int × Nat => [(l9, W.listOf c.1.toArray c.2.2)]) (fun _ => []) (fun c => IntsAre c.1 c.2.1) [Str.ofString "figure"] (fun i c => c.2.1 = missF figs led i) ([], [], 0) rfl R9 ?small ?size F9 N9 .nil (List.forall_mem_nil _) rfl ?turn ?done
  all_goals clear F9 N9
  case small => exact down_small hfl
  case size => exact down_size
  case turn =>
    rintro ⟨vs', ns, k⟩ i t u h tk own hi hOff hFacts hInv F N
    dsimp only [kstB] at F N hOff hFacts hInv
    simp only [List.nil_append, List.cons_append, List.append_nil] at N
    (try k_fold)
    have kMark := kstMark
    have hb : vs'.length < 100 := by
      have h2 := hFacts.length
      have h3 := congrArg List.length hInv
      have := missF_len figs led i
      omega
    have hfg := hFf.getD (↑figs.length - 1 + ↑i * -1 : Int).toNat
    walk_at "m_turn"
    · rename News _ _ _ _ => nE
      simp only [List.push_toArray] at nE
      rename _ < _ => hlt
      refine kend1 (by assumption) (fun p hp => nE p (.tail _ hp)) (hFacts.append (.cons _ _ .nil)) (by kst_same) ?_
      rw [rkS_length, let_ord hlet hfg]
      refine miss_step hInv hi ?_
      unfold missAt
      rw [if_pos (Int.ofNat_lt.mp hlt)]
    · rename News _ _ _ _ => nE
      rename ¬ _ => hlt
      refine kend1 (by assumption) (fun p hp => nE p (.tail _ hp)) hFacts (by kst_same) ?_
      rw [rkS_length]
      refine miss_step hInv hi ?_
      unfold missAt
      rw [if_neg (fun q => hlt (Int.ofNat_lt.mpr q)), List.append_nil]
  case done =>
    rintro ⟨vs1, ns1, k1⟩ u h tk hFacts hInv F N
    dsimp only [kstB] at F N hFacts hInv
    clear R9
    have hb1 : vs1.length < 100 := by
      have h2 := hFacts.length
      have h3 := congrArg List.length hInv
      have := missF_len figs led figs.length
      omega
    (try k_fold)
    walk_at "m_to"
    rename IsRange _ _ _ _ _ _ _ _ => R9
    rename News _ _ _ _ => N9
    rename Fr _ _ _ _ => F9
    obtain ⟨l8, hl8⟩ : ∃ l, l = adr1 N9 := ⟨_, rfl⟩
    dsimp only [adr1] at hl8
    subst hl8
    have hl89 : @LT.lt Nat _ l9 l8 := by assumption
    refine rng_loop (n := led.length) (fun c : List Value × List Int × Nat => [(l8, W.listOf c.1.toArray c.2.2), (l9, W.listOf vs1.toArray k1)]) (fun _ => []) (fun c => IntsAre c.1 c.2.1) [Str.ofString "figure"] (fun i c => c.2.1 = unexF figs led i) ([], [], 0) rfl R9 ?zsmall ?zsize F9 N9 .nil (List.forall_mem_nil _) rfl ?zturn ?zdone
    all_goals clear F9 N9
    case zsmall => exact up_small hdl
    case zsize => exact up_size
    case zturn =>
      rintro ⟨vs', ns, k⟩ i t u h tk own hi hOff hFacts2 hInv2 F N
      dsimp only [kstB] at F N hOff hFacts2 hInv2
      simp only [List.nil_append, List.cons_append] at N
      (try k_fold)
      have kMark := kstMark
      have hb : vs'.length < 100 := by
        have h2 := hFacts2.length
        have h3 := congrArg List.length hInv2
        have := unexF_len figs led i
        omega
      have hfg := hFd.getD (0 + ↑i * 1 : Int).toNat
      walk_at "m_turn"
      · rename News _ _ _ _ => nE
        simp only [List.push_toArray] at nE
        rename _ < _ => hlt
        rw [up_take] at hlt
        refine kend1t (by assumption) (fun p hp => nE p (.tail _ hp)) (hFacts2.append (.cons _ _ .nil)) (by kst_same) ?_
        rw [rkS_length, let_ord hlet hfg]
        refine unex_step hInv2 hi ?_
        unfold unexAt
        rw [if_pos (Int.ofNat_lt.mp hlt)]
      · rename News _ _ _ _ => nE
        rename ¬ _ => hlt
        rw [up_take] at hlt
        refine kend1t (by assumption) (fun p hp => nE p (.tail _ hp)) hFacts2 (by kst_same) ?_
        rw [rkS_length]
        refine unex_step hInv2 hi ?_
        unfold unexAt
        rw [if_neg (fun q => hlt (Int.ofNat_lt.mpr q)), List.append_nil]
    case zdone =>
      rintro ⟨vs2, ns2, k2⟩ u h tk hFacts2 hInv2 F N
      dsimp only [kstB] at F N hFacts2 hInv2
      clear R9
      have hb2 : vs2.length < 100 := by
        have h2 := hFacts2.length
        have h3 := congrArg List.length hInv2
        have := unexF_len figs led led.length
        omega
      (try k_fold)
      repeat ((fail_if_success (with_reducible show wpAny _ _ (call (Value.ref 118) _) _ _ _)); first | walk1 | (dsimp only; walk1))
      rename News _ _ _ _ => N9
      rename Fr _ _ _ _ => F9
      obtain ⟨e9, he9⟩ : ∃ x, x = adr2b N9 := ⟨_, rfl⟩
      obtain ⟨a9, ha9⟩ : ∃ x, x = adr1 N9 := ⟨_, rfl⟩
      obtain ⟨L9, hL9⟩ : ∃ x, x = frOfB F9 := ⟨_, rfl⟩
      dsimp only [adr1, adr2b, frOfB] at he9 ha9 hL9
      subst he9 ha9 hL9
      have hea : @LT.lt Nat _ e9 a9 := by omega
      have h8e : @LT.lt Nat _ l8 e9 := by omega
      have F8 := frDown F9 kg hgs
      have N8 := newsDown F9 N9 kg Nh
      have N7 := news_sw N8
      have hfre : ∀ q ∈ frs, ∀ b, s.heap.get? b = none → q.1 ≠ b := fun q hq b hb e => by rw [← e, (Nh q hq).1] at hb; cases hb
      have hne : ∀ q ∈ frs, q.1 ≠ e9 := fun q hq => hfre q hq _ (N9 _ (.tail _ (.head _))).2.2
      have hna : ∀ q ∈ frs, q.1 ≠ a9 := fun q hq => hfre q hq _ (N9 _ (.head _)).2.2
      have hnL : ∀ q ∈ frs, q.1 ≠ L9 := fun q hq e => absurd (Heap.lt_size (Nh q hq).1) (by rw [e]; exact Nat.not_lt_of_le F9.above)
      clear F9 N9 X T
      refine unord_c (h₀ := g) (rest := [(l8, W.listOf vs2.toArray k2), (l9, W.listOf vs1.toArray k1)]) (frs := frs) (ns := (encS fo).2.2) (ms := (encS lo).2.2) X₀ T₀ ?yroom ?yunits F8 N7 Fs ?yck rfl ?yoff hnL (Nat.ne_of_lt hea) (by assumption) (by assumption) ?yl1 ?yl2 ?yret
      case yroom => ktr_room
      case yunits => ktr_units
      case yck => rfl
      case yl1 => have := (encS_ok fo).len; omega
      case yl2 => have := (encS_ok lo).len; omega
      case yoff =>
        intro p hp b hb
        rcases List.mem_append.mp hp with hp | hp
        · have : @LE.le Nat _ p.1 l8 := by
            rcases List.mem_cons.mp hp with rfl | hp
            · exact Nat.le_refl _
            · rw [List.mem_singleton.mp hp]; exact Nat.le_of_lt hl89
          rcases List.mem_cons.mp hb with rfl | hb
          · exact Nat.ne_of_lt (Nat.lt_of_le_of_lt this h8e)
          · rw [List.mem_singleton.mp hb]
            exact Nat.ne_of_lt (Nat.lt_of_le_of_lt this (Nat.lt_trans h8e hea))
        · rcases List.mem_cons.mp hb with rfl | hb
          · exact hne p hp
          · rw [List.mem_singleton.mp hb]; exact hna p hp
      case yret =>
        intro r mi ws vs3 k3 k4 k5 frs' h' tk' SU F N hws hvs3
        simp only [List.cons_append, List.nil_append] at N
        rw [hp] at hws hvs3
        dsimp only at hws hvs3
        rw [← hInv] at hws
        rw [← hInv2] at hvs3
        clear F8 N8 N7
        repeat ((fail_if_success (with_reducible show wpAny _ _ (compareOp CmpOp.Eq (Value.ref _) (Value.ref _)) _ _ _)); first | walk1 | (dsimp only; walk1))
        rename News _ _ _ _ => N6
        have g1 : Reads _ (.ref r) (.tuple [.list (ns1.map .int), .list (ns2.map .int)]) _ := Reads.tuple (N6 _ (.tail _ (.head _))).1 rfl rfl (.cons (reads_of_ints (News.isList N6 (.tail _ (.tail _ (.head _)))) hws) (.cons (reads_of_ints (News.isList N6 (.tail _ (.tail _ (.tail _ (.tail _ (.head _)))))) hvs3) .nil))
        have g2 : Reads _ (.ref (adr1 N6)) (.tuple [.list (ns1.map .int), .list (ns2.map .int)]) _ := Reads.tuple (N6 _ (.head _)).1 rfl rfl (.cons (reads_of_ints (News.isList N6 (.tail _ (.tail _ (.tail _ (.tail _ (.tail _ (.tail _ (.head _)))))))) hFacts) (.cons (reads_of_ints (News.isList N6 (.tail _ (.tail _ (.tail _ (.tail _ (.tail _ (.head _))))))) hFacts2) .nil))
        refine eq_dataH g1 g2 (ints_shaped _ _) (ints_shaped _ _) ?zroom ?_
        case zroom => ktr_units
        rw [ints_eqv]
        clear g1 g2
        repeat (first | walk1 | (dsimp only; walk1))
        k_unfold
        rename News _ _ _ _ => N5
        rename Fr _ _ _ _ => F5
        exact hret frs' _ _ SU (fun q hq => (N5 q (.tail _ (.tail _ (.tail _ (.tail _ (.tail _ (.tail _ (.tail _ (.tail _ hq))))))))).1) F5.keep
end
theorem anew_F14 : True := by
  w_top off
  k_with_none
  trivial
set_option maxHeartbeats 1000000
theorem fill14 : PySem.Challenge.rw_pa0046_01.row.prog = PySem.Challenge.rw_pa0046_01.row.prog ∧ Mine.pre.heap_1 = Mine.pre.heap_1 := by
  k_fill
  exact ⟨rfl, rfl⟩
local macro_rules | `(tactic| walk_at "call ref") => `(tactic| (k_here; (show wpAny _ _ (call (Value.ref 153) [Value.ref _]) _ _ _); k_dflt (refine' octets_c ?k1 ?k2 ?k3 ?k4 ?k5 ?k6 ?k7 ?k8 ?k9 ?_; (case k1 => k_in); (case k2 => walk_at "m_top"); (case k3 => ktr_room); (case k4 => ktr_units); (case k5 => kmk_list); (case k6 => l_ints); (case k7 => assumption); (case k8 => assumption); (case k9 => first | assumption | decide)); k_whole; intro t9 h9 tk9 kp9; obtain ⟨F9, N9⟩ := back (by k_asm) (by k_asm) kp9; clear kp9; (try dsimp only)))
def oF (figs : List Int) (ways : List (List Int)) : Nat → List Int
  | 0 => octI figs 2
  | i + 1 => octI (ways.getD i []) ((ways.getD i []).length / 4)
theorem LedsAre.len {l : List (Addr × Obj)} {r : List (List Int)} (h : LedsAre l r) : l.length = r.length := by
  induction h with
  | nil => rfl
  | cons _ _ ih => simp [ih]
theorem newsWays {g h₁ h : Heap} {L r : Addr} {m : Str → Option Value} {o : Obj} {news lds : List (Addr × Obj)} (F : Fr g L h₁ m) (N : News g L h₁ news) (k : Keeps h₁ h) (hr0 : h₁.get? r = none) (hr : h.get? r = some o) (hl : ∀ p ∈ lds, h.get? p.1 = some p.2 ∧ h₁.get? p.1 = none ∧ p.1 ≠ r) : News g L h ((r, o) :: (news ++ lds)) := by
  have fresh : ∀ b, h₁.get? b = none → b ≠ L ∧ g.get? b = none := fun b hb => by
    refine ⟨fun e => ?_, ?_⟩
    · obtain ⟨oL, _, _, hL, _⟩ := F.ns
      rw [e, hL] at hb; cases hb
    · cases q : g.get? b with
      | none => rfl
      | some o' => rw [F.keep _ _ q] at hb; cases hb
  intro p hp
  rcases List.mem_cons.mp hp with rfl | hp
  · exact ⟨hr, fresh _ hr0⟩
  · rcases List.mem_append.mp hp with hp | hp
    · exact ⟨k _ _ (N p hp).1, (N p hp).2⟩
    · exact ⟨(hl p hp).1, fresh _ (hl p hp).2.1⟩
theorem refs_upto (refs : List Addr) {y : Int} (h : 0 ≤ y) : slicePick (refs.map Value.ref).toArray none (some y) none = ((refs.take y.toNat).map Value.ref).toArray := by
  have e : sliceBounds none (some y) none (refs.map Value.ref).toArray.size = (((0 : Nat) : Int), ((min y.toNat (refs.map Value.ref).toArray.size : Nat) : Int), 1) := by
    simp only [sliceBounds, Option.getD_none, show (1 : Int) > 0 by decide, if_true, if_neg (show ¬ (y < 0) by omega)]
    congr 1
    congr 1
    omega
  rw [kmk_pick_nat _ e]
  show ((((refs.map Value.ref).drop 0).take (min y.toNat (refs.map Value.ref).toArray.size - 0)).toArray) = _
  rw [List.drop_zero, Nat.sub_zero, List.size_toArray, kmk_take_min, List.map_take]
theorem refs_slice {prog : Program} {w : World} {A : Around} {E : Value → Shared → Prop} {s : Shared} {h₀ : Heap} {L l : Addr} {m : Str → Option Value} {news : List (Addr × Obj)} {value slice : PySem.Expr} {refs : List Addr} {vl vu : Value} {y : Int} {Q : Value → Shared → Prop} (F : Fr h₀ L s.heap m) (N : News h₀ L s.heap news) (hl : s.heap.IsList l (refs.map Value.ref).toArray) (pl : IsPart vl none) (pu : IsPart vu (some y)) (h0 : 0 ≤ y)
    (h : ∀ D h', Fr h₀ L h' m → News h₀ L h' ((D, W.listOf ((refs.take y.toNat).map Value.ref).toArray 0) :: news) → (∀ p ∈ news, p.1 < D) → Q (.ref D) { s with heap := h' })
    (hs : subscripted slice false (.ref l) (.ref s.heap.objs.size) = operate [.ref s.heap.objs.size, .ref l] (getItem (.ref l) (.ref s.heap.objs.size))) (ht : ∀ r, letTemporaryGo value (.ref l) r = pure ()) (hz : (refs.map Value.ref).toArray.size ≤ sizeLine) :
    wpAny (model prog w) A (subscriptTail value slice (.ref l) (.ref s.heap.objs.size)) Q E { s with heap := s.heap.push { cls := .type "slice", data := .fields #[vl, vu, .none] } } := by
  refine kmk_slice F N hl pl pu (fun D h' F' N' l1 => ?_) hs ht hz
  rw [refs_upto refs h0] at N'
  exact h D h' F' N' l1
local macro_rules | `(tactic| walk_at "subscriptTail Name Slice ref ref") => `(tactic| (k_here; (with_reducible show wpAny _ _ (subscriptTail _ (PySem.Expr.Slice none (some _) none _) (Value.ref _) (Value.ref _)) _ _ _); k_dflt (refine' refs_slice ?F ?N ?l ?p ?q ?z0 ?_ ?s ?t ?z; (case F => k_asm); (case N => k_asm); (case l => kmk_list); (case p => kmk_part); (case q => kmk_part); (case z0 => omega); (case s => with_unfolding_all rfl); (case t => kmk_pure); (case z => (rw [List.size_toArray, List.length_map, PySem.sizeLine_eq]; omega))); intro D' h' F' N' l1; (try k_lt l1); (try k_sweep)))
theorem len_at {prog : Program} {w : World} {A : Around} {E : Value → Shared → Prop} {s : Shared} {h₀ : Heap} {L l : Addr} {news : List (Addr × Obj)} {vs : List Value} {k n : Nat} {Q : Value → Shared → Prop} (N : News h₀ L s.heap news) (hm : (l, W.listOf vs.toArray k) ∈ news) (e : vs.length = n) (hb : n < 20)
    (h : Q (.int (n : Int) (s.toks + 1)) { s with toks := s.toks + 1 + 1 }) : wpAny (model prog w) A (call (.builtin "len") [.ref l]) Q E s :=
  len_list (News.isList N hm) (by rw [List.size_toArray, e]; omega) (by rw [List.size_toArray, e]; exact h)
local macro_rules | `(tactic| walk_at "call builtin:len") => `(tactic| (k_here; (with_reducible show wpAny _ _ (call (Value.builtin "len") [Value.ref _]) _ _ _); k_dflt (refine' len_at ?N ?m ?e ?b ?_; (case N => k_asm); (case m => k_mem); (case e => assumption); (case b => assumption))))
theorem LedsAre.cls {l : List (Addr × Obj)} {r : List (List Int)} (h : LedsAre l r) : ∀ p ∈ l, p.2.cls = .type "list" := by
  induction h with
  | nil => exact fun _ h => nomatch h
  | cons _ _ ih =>
    intro p hp
    rcases List.mem_cons.mp hp with rfl | hp
    · rfl
    · exact ih p hp
theorem TabOk.ne {h : Heap} {oT o : Obj} (x : TabOk h oT) (e : o.cls = .type "list") : o ≠ oT := fun q => by
  rcases x with rfl | ⟨c, rfl, _⟩
  · rw [q] at e; cases e
  · rw [q] at e; cases e
theorem TabOk.up {h h' : Heap} {oT : Obj} (x : TabOk h oT) (h155 : h.get? 155 = some oT) (k : Keeps (hideAll h [155]) h') : TabOk h' oT := by
  rcases x with rfl | ⟨c, rfl, hc⟩
  · exact .inl rfl
  · exact .inr ⟨c, rfl, (recHide hc h155 (.inr ⟨4, rfl⟩)).keeps k⟩
theorem newsLed {g h₁ h : Heap} {L r tr : Addr} {m : Str → Option Value} {o1 o2 oT oT' : Obj} {p q : Addr × Obj} {lds : List (Addr × Obj)} (F : Fr g L h₁ m) (N : News g L h₁ (p :: q :: (155, oT) :: lds)) (k : KeepsOff 155 h₁ h) (hr0 : h₁.get? r = none) (htr0 : h₁.get? tr = none) (_hrt : r ≠ tr)
    (hr : h.get? r = some o1) (htr : h.get? tr = some o2) (h155 : h.get? 155 = some oT') (hp : p.1 ≠ 155) (hq : q.1 ≠ 155) (hl : ∀ x ∈ lds, x.1 ≠ 155) : News g L h ((r, o1) :: (tr, o2) :: p :: q :: (155, oT') :: lds) := by
  have fresh : ∀ b, h₁.get? b = none → b ≠ L ∧ g.get? b = none := fun b hb => by
    refine ⟨fun e => ?_, ?_⟩
    · obtain ⟨oL, _, _, hL, _⟩ := F.ns
      rw [e, hL] at hb; cases hb
    · cases q : g.get? b with
      | none => rfl
      | some o' => rw [F.keep _ _ q] at hb; cases hb
  intro x hx
  rcases List.mem_cons.mp hx with rfl | hx
  · exact ⟨hr, fresh _ hr0⟩
  rcases List.mem_cons.mp hx with rfl | hx
  · exact ⟨htr, fresh _ htr0⟩
  rcases List.mem_cons.mp hx with rfl | hx
  · exact ⟨k _ _ hp (N _ (.head _)).1, (N _ (.head _)).2⟩
  rcases List.mem_cons.mp hx with rfl | hx
  · exact ⟨k _ _ hq (N _ (.tail _ (.head _))).1, (N _ (.tail _ (.head _))).2⟩
  rcases List.mem_cons.mp hx with rfl | hx
  · exact ⟨h155, (N (155, oT) (.tail _ (.tail _ (.head _)))).2⟩
  · have := N x (.tail _ (.tail _ (.tail _ hx)))
    exact ⟨k _ _ (hl x hx) this.1, this.2⟩
theorem cat_at {prog : Program} {w : World} {A : Around} {E : Value → Shared → Prop} {s : Shared} {h₀ : Heap} {L a b : Addr} {m : Str → Option Value} {news : List (Addr × Obj)} {xs ys : List Value} {j k : Nat} {Q : Value → Shared → Prop} (F : Fr h₀ L s.heap m) (N : News h₀ L s.heap news) (ma : (a, W.listOf xs.toArray j) ∈ news) (mb : (b, W.listOf ys.toArray k) ∈ news)
    (h : ∀ D h', Fr h₀ L h' m → News h₀ L h' ((D, W.listOf (xs ++ ys).toArray 0) :: news) → (∀ p ∈ news, p.1 < D) → Q (.ref D) { s with heap := h' })
    (hz : xs.length + ys.length ≤ sizeLine) : wpAny (model prog w) A (binaryOp .Add (.ref a) (.ref b)) Q E s :=
  kmk_add_lit F N (News.isList N ma) (News.isList N mb) rfl h hz
local macro_rules | `(tactic| walk_at "binaryOp Add ref ref") => `(tactic| (k_here; (with_reducible show wpAny _ _ (binaryOp _ (Value.ref _) (Value.ref _)) _ _ _); k_dflt (refine' cat_at ?F ?N ?a ?b ?_ ?z; (case F => k_asm); (case N => k_asm); (case a => k_mem); (case b => k_mem); (case z => ((simp only [List.length_cons, List.length_nil, PySem.sizeLine_eq]); omega))); intro D' h' F' N' l1; (try k_lt l1)))
theorem last_at {prog : Program} {w : World} {A : Around} {E : Value → Shared → Prop} {s : Shared} {value slice : PySem.Expr} {l : Addr} {vs : List Value} {x : Value} {u : Tok} {Q : Value → Shared → Prop} (hl : s.heap.IsList l vs.toArray) (hx : vs.getLast? = some x) (h : Q x s)
    (hs : subscripted slice false (.ref l) (.int (-1) u) = operate [.ref l, .int (-1) u] (getItem (.ref l) (.int (-1) u)) := by with_unfolding_all rfl) : wpAny (model prog w) A (subscriptTail value slice (.ref l) (.int (-1) u)) Q E s := by
  have hne : vs ≠ [] := fun e => by rw [e] at hx; cases hx
  have hlen : 0 < vs.length := List.length_pos_iff.mpr hne
  refine tail_any hl.typeIs slot_list_getitem.lookup (wpAny_getItem_list_neg hl (by decide) (by rw [List.size_toArray]; omega) (by decide) ?_ h) hs
  have e : (-1 + ((vs.toArray.size : Nat) : Int)).toNat = vs.length - 1 := by rw [List.size_toArray]; omega
  rw [e, List.getElem?_toArray, ← List.getLast?_eq_getElem?]
  exact hx
theorem BytesAre.at : ∀ {vs : List Value} {bs : List (List Int)}, BytesAre vs bs → ∀ (i : Nat) b, bs[i]? = some b → ∃ t, vs[i]? = some (.bytes (byteArr b) t)
  | _, _, .cons b t r, 0, b', h => by
    have e : b = b' := by simpa using h
    subst e
    exact ⟨t, rfl⟩
  | _, _, .cons b t r, i + 1, b', h => by
    have h' := h
    rw [List.getElem?_cons_succ] at h'
    obtain ⟨u, hu⟩ := r.at i b' h'
    exact ⟨u, by rw [List.getElem?_cons_succ]; exact hu⟩
theorem last_bytes {us : List Value} {n : Nat} {o : Nat → List Int} (h : BytesAre us ((List.range n).map fun i => o (i + 1))) : ∀ t0, ∃ t, ([Value.bytes (byteArr (o 0)) t0] ++ us).getLast? = some (.bytes (byteArr (o n)) t) := by
  intro t0
  cases n with
  | zero =>
    have : us = [] := List.length_eq_zero_iff.mp (by rw [h.length]; rfl)
    subst this
    exact ⟨t0, rfl⟩
  | succ n =>
    have hl : us.length = n + 1 := by rw [h.length, List.length_map, List.length_range]
    obtain ⟨t, ht⟩ := h.at n (o (n + 1)) (by rw [List.getElem?_map, List.getElem?_range (Nat.lt_succ_self n)]; rfl)
    refine ⟨t, ?_⟩
    rw [List.getLast?_append, List.getLast?_eq_getElem?, hl, Nat.add_sub_cancel, ht]
    rfl
/-- the trail beside the ways -/
inductive ZipOk : List Value → List (Addr × Obj) → Prop
  | nil : ZipOk [] []
  | cons {p : Addr} {ys : List Value} {wl : List Int} {us : List Value} {lds : List (Addr × Obj)} (t : Tok) (hi : IntsAre ys wl) (hf : Figs wl) (hl : wl.length ≤ 8) (h4 : wl.length % 4 = 0) (r : ZipOk us lds) : ZipOk (.bytes (byteArr (octI wl (wl.length / 4))) t :: us) ((p, LCg.lst ys) :: lds)
theorem zipOk_of : ∀ {lds : List (Addr × Obj)} {Wy : List (List Int)} {us : List Value}, LedsAre lds Wy → BytesAre us (Wy.map fun w => octI w (w.length / 4)) → (∀ ws ∈ Wy, Figs ws ∧ ws.length ≤ 8 ∧ ws.length % 4 = 0) → ZipOk us lds
  | _, _, _, .nil, .nil, _ => .nil
  | _, _, _, .cons h t, .cons _ u r, hW => .cons u h (hW _ (.head _)).1 (hW _ (.head _)).2.1 (hW _ (.head _)).2.2 (zipOk_of t r fun ws hws => hW ws (.tail _ hws))
theorem octs_eq (figs : List Int) (Wy : List (List Int)) : ((List.range Wy.length).map fun i => oF figs Wy (i + 1)) = Wy.map fun w => octI w (w.length / 4) := by
  refine List.ext_getElem (by simp) fun i h1 h2 => ?_
  have hi : i < Wy.length := by simpa using h2
  simp [oF, List.getD_eq_getElem?_getD, hi]
theorem zip_ind {prog : Program} {w : World} {A : Around} {E : Value → Shared → Prop} {h₀ : Heap} {env : Env} {target : PySem.Expr} {body : List Stmt} {Q : Flow → Shared → Prop} {s : Shared} {ws : List (Addr × String)} {keep news : List (Addr × Obj)} {m₀ : Str → Option Value} {x y : Str} {us : List Value} {lds : List (Addr × Obj)}
    (turn : ∀ t p ys wl us' lds' m, (p, LCg.lst ys) ∈ lds → IntsAre ys wl → Figs wl → wl.length ≤ 8 → wl.length % 4 = 0 → (∀ z, z ≠ x → z ≠ y → m z = m₀ z) →
      (∀ m', (∀ z, z ≠ x → z ≠ y → m' z = m₀ z) → ItemsRest prog w A E h₀ env target body Q s ws keep (zipItems us' (refsOf lds')) m' news) →
      ItemsRest prog w A E h₀ env target body Q s ws keep (.pair (fun _ => .bytes (byteArr (octI wl (wl.length / 4))) t) (.ref p) :: zipItems us' (refsOf lds')) m news)
    (done : ∀ m, (∀ z, z ≠ x → z ≠ y → m z = m₀ z) → ∀ h tk, Fr h₀ env.locals h m → News h₀ env.locals h news → Q .next { s with heap := h, toks := tk })
    (Z : ZipOk us lds) : ItemsRest prog w A E h₀ env target body Q s ws keep (zipItems us (refsOf lds)) m₀ news := by
  have key : ∀ {us' : List Value} {lds' : List (Addr × Obj)}, ZipOk us' lds' → (∀ p ∈ lds', p ∈ lds) → ∀ m, (∀ z, z ≠ x → z ≠ y → m z = m₀ z) → ItemsRest prog w A E h₀ env target body Q s ws keep (zipItems us' (refsOf lds')) m news := by
    intro us' lds' Z'
    induction Z' with
    | nil => exact fun _ m hm => ItemsRest.zero (done m hm)
    | cons t hi hf hl h4 r ih => exact fun sub m hm => turn t _ _ _ _ _ m (sub _ (.head _)) hi hf hl h4 hm (ih fun p hp => sub p (.tail _ hp))
  exact key Z (fun _ hp => hp) m₀ fun _ _ _ => rfl
theorem tabCarry {g h : Heap} {L : Addr} {m : Str → Option Value} {oT : Obj} (x : TabOk h oT) (F : Fr g L h m) : ∃ cc, News g L h cc ∧ ∀ h' m', Fr g L h' m' → News g L h' cc → TabOk h' oT := by
  rcases x with rfl | ⟨c, rfl, c', oc, vs, t, e, hg, hd, hv⟩
  · exact ⟨[], News.nil, fun _ _ _ _ => .inl rfl⟩
  · cases e
    cases q : g.get? c with
    | some o =>
      have := F.keep _ _ q
      rw [hg] at this
      cases this
      exact ⟨[], News.nil, fun h' m' F' _ => .inr ⟨c, rfl, c, oc, vs, t, rfl, F'.keep _ _ q, hd, hv⟩⟩
    | none =>
      refine ⟨[(c, oc)], fun p hp => ?_, fun h' m' _ N' => .inr ⟨c, rfl, c, oc, vs, t, rfl, (N' _ (.head _)).1, hd, hv⟩⟩
      rw [List.mem_singleton.mp hp]
      refine ⟨hg, fun e => ?_, q⟩
      obtain ⟨oL, es, ep, hL, hdL, _⟩ := F.ns
      have e' : c = L := e
      rw [e', hL] at hg
      cases hg
      rw [hd] at hdL
      cases hdL
theorem newsTail {g h : Heap} {L : Addr} {p1 p2 p3 p4 p5 : Addr × Obj} {l tl : List (Addr × Obj)} (N : News g L h (p1 :: p2 :: p3 :: p4 :: p5 :: l)) (M : News g L h tl) : News g L h (p1 :: p2 :: p3 :: p4 :: p5 :: tl) := fun p hp => by
  rcases List.mem_cons.mp hp with rfl | hp
  · exact N _ (.head _)
  rcases List.mem_cons.mp hp with rfl | hp
  · exact N _ (.tail _ (.head _))
  rcases List.mem_cons.mp hp with rfl | hp
  · exact N _ (.tail _ (.tail _ (.head _)))
  rcases List.mem_cons.mp hp with rfl | hp
  · exact N _ (.tail _ (.tail _ (.tail _ (.head _))))
  rcases List.mem_cons.mp hp with rfl | hp
  · exact N _ (.tail _ (.tail _ (.tail _ (.tail _ (.head _)))))
  · exact M p hp
theorem offI {I : Addr} {news : List (Addr × Obj)} {a b c d e : Obj} (h : ∀ p ∈ news, p.1 < I) : ∀ p ∈ news, ∀ q ∈ [(I + 4, a), (I + 2, b), (I + 3, c), (I, d), (I + 1, e)], p.1 ≠ q.1 := by
  intro p hp q hq
  have h1 : @LT.lt Nat _ p.1 I := h p hp
  have h2 : @LE.le Nat _ I q.1 := by
    simp only [List.mem_cons, List.not_mem_nil, or_false] at hq
    rcases hq with rfl | rfl | rfl | rfl | rfl
    · exact Nat.le_add_right _ _
    · exact Nat.le_add_right _ _
    · exact Nat.le_add_right _ _
    · exact Nat.le_refl _
    · exact Nat.le_add_right _ _
  exact Nat.ne_of_lt (Nat.lt_of_lt_of_le h1 h2)
theorem notFrs {h : Heap} {L : Addr} {oL : Obj} {es : Array DictEntry} {ep : Nat} {frs : List (Addr × Obj)} (hL : h.get? L = some oL) (hd : oL.data = .dict es ep) (hf : ∀ q ∈ frs, h.get? q.1 = some q.2 ∧ ∃ es ep, q.2.data = .dict es ep) :
    ∀ b o, h.get? b = some o → (∀ es ep, o.data ≠ .dict es ep) → b ∉ L :: frs.map (·.1) := by
  intro b o e n hm
  rcases List.mem_cons.mp hm with rfl | hm
  · rw [hL] at e
    cases e
    exact n _ _ hd
  · obtain ⟨q, hq, rfl⟩ := List.mem_map.mp hm
    obtain ⟨h1, es, ep, h2⟩ := hf q hq
    rw [h1] at e
    cases e
    exact n _ _ h2
theorem oF_ok {figs : List Int} {Wy : List (List Int)} (hFf : Figs figs) (hW : ∀ ws ∈ Wy, Figs ws ∧ ws.length ≤ 8 ∧ ws.length % 4 = 0) (n : Nat) : KBa.In (oF figs Wy n) ∧ (oF figs Wy n).length < 20 ∧ (oF figs Wy n).length % 3 = 0 := by
  cases n with
  | zero =>
    refine ⟨octI_in hFf 2, ?_, ?_⟩
    · show (octI figs 2).length < 20
      rw [octI_length]
      decide
    · show (octI figs 2).length % 3 = 0
      rw [octI_length]
  | succ i =>
    have hg : Figs (Wy.getD i []) ∧ (Wy.getD i []).length ≤ 8 := by
      rw [List.getD_eq_getElem?_getD]
      cases e : Wy[i]? with
      | none => exact ⟨fun _ hf => (nomatch hf), Nat.zero_le _⟩
      | some x => exact ⟨(hW x (List.mem_of_getElem? e)).1, (hW x (List.mem_of_getElem? e)).2.1⟩
    refine ⟨octI_in hg.1 _, ?_, ?_⟩
    · show (octI _ _).length < 20
      rw [octI_length]
      omega
    · show (octI _ _).length % 3 = 0
      rw [octI_length]
      omega
theorem leds_last {lds : List (Addr × Obj)} {Wy : List (List Int)} (h : LedsAre lds Wy) : (lds = [] ∧ Wy = []) ∨ ∃ p ys wl, lds.getLast? = some (p, LCg.lst ys) ∧ Wy.getLast? = some wl ∧ IntsAre ys wl := by
  induction h with
  | nil => exact .inl ⟨rfl, rfl⟩
  | cons h t ih =>
    rename_i l r
    refine .inr ?_
    rcases ih with ⟨rfl, rfl⟩ | ⟨p, ys, wl, h1, h2, h3⟩
    · exact ⟨_, _, _, rfl, rfl, h⟩
    · refine ⟨p, ys, wl, ?_, ?_, h3⟩
      · rw [List.getLast?_cons, h1]; rfl
      · rw [List.getLast?_cons, h2]; rfl
theorem lastLed {lds : List (Addr × Obj)} {Wy : List (List Int)} {a : Addr} {vs : List Value} {figs : List Int} {ka : Nat} (hL : LedsAre lds Wy) (hW : ∀ ws ∈ Wy, Figs ws ∧ ws.length ≤ 8 ∧ ws.length % 4 = 0) (hv : IntsAre vs figs) (hFf : Figs figs) (hfl : figs.length < 10) :
    ∃ z led ys kz, ([Value.ref a] ++ refsOf lds).getLast? = some (.ref z) ∧ led = ([figs] ++ Wy).getLastD [] ∧ IntsAre ys led ∧ Figs led ∧ led.length < 10 ∧ ((z = a ∧ ys = vs ∧ kz = ka) ∨ (z, W.listOf ys.toArray kz) ∈ lds) := by
  rcases leds_last hL with ⟨rfl, rfl⟩ | ⟨p, ys, wl, h1, h2, h3⟩
  · exact ⟨a, figs, vs, ka, rfl, rfl, hv, hFf, hfl, .inl ⟨rfl, rfl, rfl⟩⟩
  · have hm := List.mem_of_getLast? h1
    have hw := hW wl (List.mem_of_getLast? h2)
    refine ⟨p, wl, ys, ys.length, ?_, ?_, h3, hw.1, by omega, .inr hm⟩
    · rw [List.getLast?_append, List.getLast?_map, h1]; rfl
    · rw [List.getLastD_eq_getLast?, List.getLast?_append, h2]; rfl
section
variable {w : World} {mean : ExcName → Option Value} {mg mb : Str → Option Value} {dp un : Nat} {gd : Option (List Code)} {l : List Env} {s : Shared} {Q E : Value → Shared → Prop}
theorem right_c {g : Heap} {oT : Obj} {a b c : Addr} {vs : List Value} {figs : List Int} {mss : List (List Int)} {srefs mrefs : List Addr} {frs : List (Addr × Obj)} {ka : Nat} (X₀ : (pre.heap_1 w.params).In g) (T₀ : Top topProg LS mean mg mb g) (C₀ : CodeHd g 159 155) (kg : Keeps g s.heap) (hgs : g.objs.size ≤ s.heap.objs.size)
   (hn : g.get? 155 = none) (h155 : s.heap.get? 155 = some oT) (hT : TabOk s.heap oT)
   (Nh : ∀ q ∈ frs, s.heap.get? q.1 = some q.2 ∧ g.get? q.1 = none) (Fs : TI.Frs l frs) (hdp : dp + 12 < recursionLimit) (hun : un + 256 < cLine)
   (ha₀ : g.get? a = some (W.listOf vs.toArray ka)) (hv : IntsAre vs figs) (hFf : Figs figs) (hfl : figs.length = 4 * 2)
   (hb₀ : g.IsList b (srefs.map Value.ref).toArray) (hc₀ : g.IsList c (mrefs.map Value.ref).toArray) (hsl : srefs.length < 20) (hml : mrefs.length < 20) (hmm : mrefs.length = mss.length)
   (hms : ∀ (i : Nat) r ms, mrefs[i]? = some r → mss[i]? = some ms → ∃ us, g.IsList r us.toArray ∧ IntsAre us ms ∧ ms.length = 64)
   (hwl : (waysF figs mss).length ≤ srefs.length)
   (hW : ∀ ws ∈ waysF figs mss, Figs ws ∧ ws.length ≤ 8 ∧ ws.length % 4 = 0)
   (hst : ∀ (i : Nat) r, srefs[i]? = some r → ∃ w0 w1 r0 r1 t1 t2, IsTup g r #[.str (str2 w0 w1) t1, .str (str2 r0 r1) t2] ∧ (0 ≤ w0 ∧ w0 < 128) ∧ (0 ≤ w1 ∧ w1 < 128) ∧ (0 ≤ r0 ∧ r0 < 128) ∧ (0 ≤ r1 ∧ r1 < 128) ∧ (i < (waysF figs mss).length → StepOk (oF figs (waysF figs mss) i) w0 w1 r0 r1 (oF figs (waysF figs mss) (i + 1))))
   (hp : ∀ led, led = ([figs] ++ waysF figs mss).getLastD [] → uRes (encS (octI figs 2)).2.2 (encS (oF figs (waysF figs mss) (waysF figs mss).length)).2.2 = (missF figs led figs.length, unexF figs led led.length))
   (hret : ∀ frs' oT' h' tk', TI.SameUp frs frs' → (∀ q ∈ frs', h'.get? q.1 = some q.2) → h'.get? 155 = some oT' → TabOk h' oT' → Keeps g h' → Q (.bool true) { s with heap := h', toks := tk' }) :
   wpAny (model PySem.Challenge.rw_pa0046_01.row.prog w) (Ar dp un gd (some l)) (call (.ref 179) [Value.ref a, Value.ref b, Value.ref c]) Q E s := by
  have k9 : Keeps g (hideAll s.heap [155]) := hide_base kg (fun b hb => by rw [List.mem_singleton.mp hb]; exact hn)
  have X := X₀.keeps k9
  have T := T₀.keeps k9
  have C : CodeHd (hideAll s.heap [155]) 159 155 := C₀.keeps k9
  have kg' : Keeps (hideAll s.heap [155]) s.heap := hide_keeps
  have hgs' : (hideAll s.heap [155]).objs.size ≤ s.heap.objs.size := hide_le
  have Nh' : ∀ q ∈ [((155 : Addr), oT)], s.heap.get? q.1 = some q.2 ∧ (hideAll s.heap [155]).get? q.1 = none := fun q hq => by
    rw [List.mem_singleton.mp hq]
    exact ⟨h155, hideAll_none _ (.head _)⟩
  have ha1 := k9 _ _ ha₀
  have ha : (hideAll s.heap [155]).IsList a vs.toArray := ⟨_, ha1, rfl, _, rfl⟩
  have hb := listUp k9 hb₀
  have hc := listUp k9 hc₀
  have hvl : vs.length < 10 := by rw [hv.length]; omega
  walk_at "m_enterG"
  rename @LT.lt Nat _ 155 _ => l0'
  repeat ((fail_if_success (with_reducible show wpAny _ _ (call (Value.ref 172) _) _ _ _)); first | walk1 | (dsimp only; walk1))
  rename News _ _ _ _ => N9
  rename Fr _ _ _ _ => F9
  obtain ⟨L9, hL9⟩ : ∃ x, x = frOfB F9 := ⟨_, rfl⟩
  dsimp only [frOfB] at hL9
  subst hL9
  refine ways_c (figs := figs) (mss := mss) (refs := mrefs) (X.keeps F9.keep) (T.keeps F9.keep) ?wroom ?wunits (listUp F9.keep ha) hv ?wl (listUp F9.keep hc) ?wml hmm ?wms hFf ?wret
  case wroom => ktr_room
  case wunits => ktr_units
  case wl => omega
  case wml => omega
  case wms =>
    intro i r ms h1 h2
    obtain ⟨us, x1, x2, x3⟩ := hms i r ms h1 h2
    exact ⟨us, listUp F9.keep (listUp k9 x1), x2, x3⟩
  case wret =>
    intro r kw lds h tk kp hr0 hr hL hlds
    have N2 : News (hideAll s.heap [155]) L9 h ((r, W.listOf (refsOf lds).toArray kw) :: (155, oT) :: lds) := newsWays F9 N9 kp hr0 hr hlds
    have F2 := (back F9 N9 kp).1
    have hrn : ∀ q ∈ lds, q.1 ≠ r := fun q hq => (hlds q hq).2.2
    obtain ⟨Wy, hW1⟩ : ∃ Wy, Wy = waysF figs mss := ⟨_, rfl⟩
    rw [← hW1] at hwl hW hst hp hL
    have hWl : lds.length = Wy.length := hL.len
    have hlb : (refsOf lds).length = Wy.length := by rw [List.length_map, hWl]
    have hWb : Wy.length < 20 := by omega
    clear F9 N9 kp hr0 hr hlds hms hmm
    repeat ((fail_if_success (with_reducible show wpAny _ _ (call (Value.ref 160) _) _ _ _)); first | walk1 | (dsimp only; walk1))
    rename News _ _ _ _ => N9
    rename Fr _ _ _ _ => F9
    simp only [Int.toNat_natCast] at N9
    obtain ⟨d9, hd9⟩ : ∃ x, x = adr1 N9 := ⟨_, rfl⟩
    dsimp only [adr1] at hd9
    subst hd9
    have hrl : (srefs.take Wy.length).length = Wy.length := by rw [List.length_take]; omega
    have hld : ∀ q ∈ lds, q.1 ≠ 155 := fun q hq => news_ne (N9 q (.tail _ (.tail _ (.tail _ hq)))).1 (N9 _ (.tail _ (.tail _ (.head _)))).1 (hT.ne (hL.cls q hq))
    have hr155 : r ≠ 155 := news_ne (N9 _ (.tail _ (.head _))).1 (N9 _ (.tail _ (.tail _ (.head _)))).1 (hT.ne rfl)
    have hd155 : d9 ≠ 155 := news_ne (N9 _ (.head _)).1 (N9 _ (.tail _ (.tail _ (.head _)))).1 (hT.ne rfl)
    refine led_c (h₀ := hideAll s.heap [155]) (refs := srefs.take Wy.length) (oF figs Wy) X T C F9.keep (hideAll_none _ (.head _)) (N9 _ (.tail _ (.tail _ (.head _)))).1 (hT.up h155 F9.keep) ?lroom ?lunits (News.isList N9 (.head _)) ?ll ?lst ?lret
    case lroom => ktr_room
    case lunits => ktr_units
    case ll => rw [hrl]; exact hWb
    case lst =>
      intro i q hq
      rw [List.getElem?_take] at hq
      split at hq
      · rename_i hi
        obtain ⟨w0, w1, r0, r1, t1, t2, x1, x2, x3, x4, x5, x6⟩ := hst i q hq
        exact ⟨w0, w1, r0, r1, t1, t2, tupUp F9.keep (tupUp k9 x1), x2, x3, x4, x5, x6 hi⟩
      · cases hq
    case lret =>
      intro r2 tr us ku t h2 tk2 oT2 kp hr0 htr0 hrt hr2 htr2 hus h1552 hT2
      rw [hrl] at hr2 hus
      have F2 := frOff F9 kp (Nat.ne_of_lt l0') (hideAll_none _ (.head _))
      have N2 := newsLed F9 N9 kp hr0 htr0 hrt hr2 htr2 h1552 hd155 hr155 hld
      obtain ⟨cc, hccN, hccT⟩ := tabCarry hT2 F2
      obtain ⟨tl, htl⟩ : ∃ tl, tl = lds ++ cc := ⟨_, rfl⟩
      have hlt : ∀ p ∈ lds, p ∈ tl := fun p hp => by rw [htl]; exact List.mem_append_left _ hp
      have hct : ∀ p ∈ cc, p ∈ tl := fun p hp => by rw [htl]; exact List.mem_append_right _ hp
      have N3 : News (hideAll s.heap [155]) L9 h2 ((r2, { cls := Value.type "tuple", data := Data.seq #[Value.ref tr, Value.bytes (byteArr (oF figs Wy Wy.length)) t] }) :: (tr, W.listOf us.toArray ku) :: (d9, _) :: (r, W.listOf (refsOf lds).toArray kw) :: (155, oT2) :: tl) := newsTail N2 (fun p hp => by
        rw [htl] at hp
        rcases List.mem_append.mp hp with hp | hp
        · exact N2 p (.tail _ (.tail _ (.tail _ (.tail _ (.tail _ hp)))))
        · exact hccN p hp)
      have hul : us.length = Wy.length := by rw [hus.length, List.length_map, List.length_range]
      clear F9 N9 kp hr0 htr0 hr2 htr2 h1552 N2 hccN
      repeat (first | walk1 | (dsimp only; walk1))
      · exact absurd rfl (by assumption)
      repeat ((fail_if_success (with_reducible show wpAny _ _ (subscriptTail _ _ (Value.ref _) (Value.int (-1) _)) _ _ _)); first | walk1 | (dsimp only; walk1))
      rename News _ _ _ _ => N5
      refine last_at (News.isList N5 (.head _)) (Classical.choose_spec (last_bytes (o := oF figs Wy) hus _)) ?_
      generalize Classical.choose _ = t5
      repeat (first | walk1 | (dsimp only; walk1))
      · rename (_ != _) = true => hbad
        simp at hbad
      repeat ((fail_if_success (with_reducible show wpAny _ _ (exec (Stmt.For _ _ _ _ _) _) _ _ _)); first | walk1 | (dsimp only; walk1))
      rename Fr _ _ _ _ => F5
      refine For_turns F5 ?_
      repeat ((fail_if_success (with_reducible show wpAny _ _ (call (Value.type _) [Value.ref _, Value.ref _]) _ _ _)); first | walk1 | (dsimp only; walk1))
      rename News _ _ _ _ => N5
      have N6 : News (hideAll s.heap [155]) L9 _ ((tr, W.listOf us.toArray ku) :: (r, W.listOf (refsOf lds).toArray kw) :: (155, oT2) :: tl) := fun p hp => N5 p (by
        rcases List.mem_cons.mp hp with rfl | hp
        · exact .tail _ (.tail _ (.tail _ (.head _)))
        · exact .tail _ (.tail _ (.tail _ (.tail _ (.tail _ hp)))))
      clear N5
      refine ktu_zip (l1 := tr) (l2 := r) (xs := us) (ys := refsOf lds) (n1 := ku) (n2 := kw) rfl F5 N6 (.head _) rfl rfl (.tail _ (.head _)) rfl rfl ?_
      intro I hI
      clear F5 N6
      refine zip_ind (x := Str.ofString "octets") (y := Str.ofString "led") ?zturn ?zdone (zipOk_of hL (octs_eq figs Wy ▸ hus) hW)
      case zturn =>
        intro t p ys wl us' lds' m hp1 hi1 hf1 hl1 hl2 hm hrest
        walk_at "ItemsRest"
        repeat ((fail_if_success (with_reducible show wpAny _ _ (call (Value.ref 153) _) _ _ _)); first | walk1 | (dsimp only; walk1))
        rename News _ _ _ _ => N8
        rename Fr _ _ _ _ => F8
        refine octets_c (n := wl.length / 4) (X.keeps F8.keep) (T.keeps F8.keep) ?oroom ?ounits (News.isList N8 (.tail _ (.tail _ (.tail _ (.tail _ (.tail _ (.tail _ (.tail _ (.tail _ (hlt _ hp1)))))))))) hi1 hf1 (by omega) (by omega) ?_
        case oroom => ktr_room
        case ounits => ktr_units
        intro t9 h9 tk9 kp9
        obtain ⟨F9, N9⟩ := back F8 N8 kp9
        clear F8 N8 kp9
        repeat (first | walk1 | (dsimp only; walk1))
        · rename (_ != _) = true => hbad
          simp at hbad
        repeat ((fail_if_success (with_reducible show UnrPostW _ _ _ _ _ _ _ _)); first | walk1 | (dsimp only; walk1))
        rename News _ _ _ _ => N5
        rename Fr _ _ _ _ => F5
        refine ⟨_, _, _, (tr, W.listOf us.toArray ku) :: (r, W.listOf (refsOf lds).toArray kw) :: (155, oT2) :: tl, rfl, F5, N5, offI hI, ⟨.head _, .tail _ (.head _), trivial⟩, hrest _ fun z h1 h2 => ?_⟩
        rw [if_neg h2, if_neg h1]
        exact hm z h1 h2
      case zdone =>
        intro m hm h tk F N
        have e1 : m "figures" = some (.ref a) := hm (Str.ofString "figures") (by decide) (by decide)
        have e2 : m "ways" = some (.ref r) := hm (Str.ofString "ways") (by decide) (by decide)
        have e3 := hm (Str.ofString "row") (by decide) (by decide)
        have e4 := hm (Str.ofString "last") (by decide) (by decide)
        have F1 := fr_say (x := Str.ofString "figures") (fr_say (x := Str.ofString "ways") (fr_say (x := Str.ofString "row") (fr_say (x := Str.ofString "last") F e4) (by rw [if_neg (by decide)]; exact e3)) (by rw [if_neg (by decide), if_neg (by decide)]; exact e2)) (by rw [if_neg (by decide), if_neg (by decide), if_neg (by decide)]; exact e1)
        clear F e1 e2 e3 e4 hm

        repeat ((fail_if_success (with_reducible show wpAny _ _ (subscriptTail _ _ (Value.ref _) (Value.int (-1) _)) _ _ _)); first | walk1 | (dsimp only; walk1))
        rename News _ _ _ _ => N5
        obtain ⟨z, led, ys, kz, q1, q2, q3, q4, q5, q6⟩ := lastLed (a := a) (ka := ka) hL hW hv hFf (by omega)
        refine last_at (News.isList N5 (.head _)) q1 ?_
        repeat ((fail_if_success (with_reducible show wpAny _ _ (call (Value.ref 167) _) _ _ _)); first | walk1 | (dsimp only; walk1))
        rename Fr _ _ _ _ => F7
        obtain ⟨oL, es, ep, hL9, hLd, hLr⟩ := F7.ns
        have hfs : ∀ q ∈ frs, q.1 ≠ 155 := fun q hq => by
          obtain ⟨es, ep, hd⟩ := Fs.dict q hq
          refine news_ne (Nh q hq).1 h155 fun e => ?_
          rcases hT with rfl | ⟨c, rfl, _⟩
          · rw [e] at hd; cases hd
          · rw [e] at hd; cases hd
        have frUp : ∀ q ∈ frs, Heap.get? _ q.1 = some q.2 := fun q hq => F7.keep _ _ (hideAll_get _ (Nh q hq).1 (fun hm => hfs q hq (List.mem_singleton.mp hm)))
        have hfd := notFrs hL9 hLd (fun q hq => ⟨frUp q hq, Fs.dict q hq⟩)
        have kk : Keeps g (hideAll _ (L9 :: frs.map (·.1))) := hide_base (fun b o e => F7.keep b o (k9 b o e)) (fun b hb => by
          rcases List.mem_cons.mp hb with rfl | hb
          · exact Heap.get?_none_of_le (Nat.le_trans hgs (Nat.le_trans (Nat.le_of_eq (hideAll_size _ _).symm) F7.above))
          · obtain ⟨q, hq, rfl⟩ := List.mem_map.mp hb
            exact (Nh q hq).2)
        have h155b := (N5 _ (.tail _ (.tail _ (.tail _ (.tail _ (.head _)))))).1
        have hTb := hccT _ _ F7 (fun p hp => N5 p (.tail _ (.tail _ (.tail _ (.tail _ (.tail _ (hct p hp)))))))
        have ok1 := oF_ok hFf hW 0
        have ok2 := oF_ok hFf hW Wy.length
        refine bags_c (a := a) (b := z) (vs := vs) (us := ys) (figs := figs) (led := led) (fo := octI figs 2) (lo := oF figs Wy Wy.length) (frs := (L9, oL) :: frs) (ka := ka) (kb := kz) (X₀.keeps kk) (T₀.keeps kk) hide_keeps hide_le ?bNh ⟨?bk, rfl, ⟨es, ep, hLd⟩, Fs⟩ ?broom ?bunits (kk _ _ ha₀) hv ?bz q3 hFf q4 (by omega) q5 ok1.1 ok1.2.1 ok1.2.2 ok2.1 ok2.2.1 ok2.2.2 (hp led q2) ?bret
        case bNh =>
          intro q hq
          rcases List.mem_cons.mp hq with rfl | hq
          · exact ⟨hL9, hideAll_none _ (.head _)⟩
          · exact ⟨frUp q hq, hideAll_none _ (.tail _ (List.mem_map_of_mem hq))⟩
        case bk =>
          show ScopeKind.function ≠ ScopeKind.module
          decide
        case broom => ktr_room
        case bunits => ktr_units
        case bz =>
          rcases q6 with ⟨rfl, rfl, rfl⟩ | hm
          · exact kk _ _ ha₀
          · exact hideAll_get _ (N5 _ (.tail _ (.tail _ (.tail _ (.tail _ (.tail _ (hlt _ hm))))))).1 (hfd _ _ (N5 _ (.tail _ (.tail _ (.tail _ (.tail _ (.tail _ (hlt _ hm))))))).1 (fun _ _ e => by cases e))
        case bret =>
          intro frs' h' tk' SU hfr kp
          cases frs' with
          | nil => exact SU.elim
          | cons q qs =>
            obtain ⟨s1, ⟨sl, s2⟩, s3⟩ := SU
            have hnd : ∀ es ep, oT2.data ≠ .dict es ep := fun es ep e => by
              rcases hTb with rfl | ⟨c, rfl, _⟩
              · cases e
              · cases e
            refine hret qs oT2 h' tk' s3 (fun x hx => hfr x (.tail _ hx)) (kp _ _ (hideAll_get _ h155b (hfd _ _ h155b hnd))) ?_ (fun b o e => kp b o (kk b o e))
            rcases hTb with e | ⟨c, e, c', oc, vs', t', x1, x2, x3, x4⟩
            · exact .inl e
            · exact .inr ⟨c, e, c', oc, vs', t', x1, kp _ _ (hideAll_get _ x2 (hfd _ _ x2 (fun _ _ e => by rw [x3] at e; cases e))), x3, x4⟩
end
theorem anew_L15 : True := by
  w_top off
  k_with_none
  trivial
set_option maxHeartbeats 2000000
theorem fill15 : PySem.Challenge.rw_pa0046_01.row.prog = PySem.Challenge.rw_pa0046_01.row.prog ∧ Mine.pre.heap_1 = Mine.pre.heap_1 := by
  k_fill
  exact ⟨rfl, rfl⟩
theorem ints_all : ∀ {vs : List Value} {ns : List Int}, IntsAre vs ns → ∀ v ∈ vs, ∃ n t, v = .int n t
  | _, _, .cons n t r, v, h => by
    rcases List.mem_cons.mp h with rfl | h
    · exact ⟨n, t, rfl⟩
    · exact ints_all r v h
theorem ints_ex : ∀ (vs : List Value), (∀ v ∈ vs, ∃ n t, v = .int n t) → ∃ ns, IntsAre vs ns
  | [], _ => ⟨[], .nil⟩
  | v :: r, h => by
    obtain ⟨n, t, rfl⟩ := h v (.head _)
    obtain ⟨ns, hr⟩ := ints_ex r fun x hx => h x (.tail _ hx)
    exact ⟨n :: ns, .cons n t hr⟩
theorem pick_ints {vs : List Value} {ns : List Int} (hi : IntsAre vs ns) (lo hi' st : Option Int) : ∃ ms, IntsAre (slicePick vs.toArray lo hi' st).toList ms := by
  refine ints_ex _ fun v hv => ints_all hi v ?_
  unfold slicePick at hv
  rw [List.toList_toArray] at hv
  obtain ⟨j, _, hj⟩ := List.mem_filterMap.mp hv
  rw [List.getElem?_toArray] at hj
  exact List.mem_of_getElem? hj
section
variable {prog : Program} {w : World} {A : Around} {E : Value → Shared → Prop} {s : Shared} {h₀ : Heap} {L l : Addr} {m : Str → Option Value} {news : List (Addr × Obj)} {value slice : PySem.Expr} {vs : List Value} {ns : List Int} {vl vu vk : Value} {lo hi st : Option Int} {Q : Value → Shared → Prop}
theorem slice3_ints {ops : List Value} (F : Fr h₀ L s.heap m) (N : News h₀ L s.heap news) (hl : s.heap.IsList l vs.toArray) (hi' : IntsAre vs ns) (pl : IsPart vl lo) (pu : IsPart vu hi) (pk : IsPart vk st) (h0 : st ≠ some 0)
    (h : ∀ D ws ms h', Fr h₀ L h' m → News h₀ L h' ((D, W.listOf (List.toArray ws) 0) :: news) → (∀ p ∈ news, p.1 < D) → IntsAre ws ms → ws.length ≤ vs.length → Q (.ref D) { s with heap := h' })
    (hs : subscripted slice false (.ref l) (.ref s.heap.objs.size) = operate ops (getItem (.ref l) (.ref s.heap.objs.size))) (ht : ∀ r, letTemporaryGo value (.ref l) r = pure ()) (hz : vs.toArray.size ≤ sizeLine) :
    wpAny (model prog w) A (subscriptTail value slice (.ref l) (.ref s.heap.objs.size)) Q E { s with heap := s.heap.push { cls := .type "slice", data := .fields #[vl, vu, vk] } } := by
  obtain ⟨ms, hm⟩ := pick_ints hi' lo hi st
  refine slice_list3 F N hl pl pu pk h0 (fun h' F' N' => h _ (slicePick vs.toArray lo hi st).toList ms h' F' ?_ (fun p hp => Nat.lt_succ_of_lt (Heap.lt_size (N p hp).1)) hm ?_) hs ht hz
  · rw [Array.toArray_toList]
    exact N'
  · rw [Array.length_toList]
    have := slicePick_size_le vs.toArray lo hi st
    rwa [List.size_toArray] at this
end
local macro_rules | `(tactic| walk_at "subscriptTail Name Slice ref ref") => `(tactic| (k_here; (with_reducible show wpAny _ _ (subscriptTail _ (PySem.Expr.Slice _ _ (some _) _) (Value.ref _) (Value.ref _)) _ _ _); k_dflt (refine' slice3_ints ?F ?N ?l ?i ?p ?q ?k ?o ?_ ?s ?t ?z; (case F => k_asm); (case N => k_asm); (case l => kmk_list); (case i => l_ints); (case p => kmk_part); (case q => kmk_part); (case k => kmk_part); (case o => decide); (case s => with_unfolding_all rfl); (case t => kmk_pure); (case z => (rw [List.size_toArray, PySem.sizeLine_eq]; omega))); intro D' ws' ms' h' F' N' l1 hI' hL'; (try k_lt l1)))
section
variable {prog : Program} {w : World} {A : Around} {h₀ : Heap} {L : Addr} {m : Str → Option Value} {env : Env} {elt : PySem.Expr} {x : Str} {scope : Scope} {cl : List (Str × Addr)} {s : Shared} {S : List (Addr × Obj) → Prop} {P : Nat → Value → Prop} {Fin : List Value → List (Addr × Obj) → Prop} {n : Nat} {news : List (Addr × Obj)}
theorem compEnd_mono {I C D : Addr} {oI oC oD : Obj} {R R' : Value → List (Addr × Obj) → Prop} {y : Value} {s₂ : Shared} (h : LCg.CompEnd h₀ L m s I oI C oC D oD S R y s₂) (k : ∀ y l, R y l → R' y l) : LCg.CompEnd h₀ L m s I oI C oC D oD S R' y s₂ :=
  let ⟨h', tk, l, a, b, c, d, e, f⟩ := h; ⟨h', tk, l, a, b, c, d, e, k _ _ f⟩
/-- a comprehension by what holds between its turns -/
theorem comp_ind (J : Nat → List Value → List (Addr × Obj) → Prop)
    (turn : ∀ i ys news v I oI C oC D m₂ h tk (E' : Value → Shared → Prop), i < n → P i v → J i ys news → LCg.NsObj oC m₂ → m₂ x = some v → Fr h₀ L h m → News h₀ L h ((I, oI) :: (C, oC) :: (D, LCg.lst ys) :: news) → LCg.Off3 I C D news → ((@Ne Nat I C) ∧ (@Ne Nat I D) ∧ (@Ne Nat C D)) →
      wpAny (model prog w) A (eval elt (compEnvC scope cl C env)) (LCg.CompEnd h₀ L m { s with heap := h, toks := tk } I oI C oC D (LCg.lst ys) S (fun y news' => J (i + 1) (ys ++ [y]) news')) E' { s with heap := h, toks := tk })
    (done : ∀ ys news, J n ys news → Fin ys news) (h0 : J 0 [] news) : LCg.CompRest prog w A h₀ L m env elt x scope cl s S P Fin n 0 [] news := by
  have key : ∀ k i ys news, i + k = n → J i ys news → LCg.CompRest prog w A h₀ L m env elt x scope cl s S P Fin k i ys news := by
    intro k
    induction k with
    | zero =>
      intro i ys news e hJ
      have : i = n := by omega
      subst this
      exact LCg.CompRest.zero (done ys news hJ)
    | succ k ih =>
      intro i ys news e hJ
      refine LCg.CompRest.succ fun v I oI C oC D m₂ h tk E' hP hC hx F N off ne => ?_
      refine wpAny_mono (turn i ys news v I oI C oC D m₂ h tk E' (by omega) hP hJ hC hx F N off ne) (fun y s₂ h₂ => compEnd_mono h₂ fun y l hj => ih (i + 1) (ys ++ [y]) l (by omega) hj) fun _ _ e => e
  exact key n 0 [] news (Nat.zero_add n) h0
end
/-- the stations' tuples -/
inductive TupsAre : List (Addr × Obj) → List Int → Prop
  | nil : TupsAre [] []
  | cons {r : Addr} {o : Obj} {n : Int} {t1 t2 : Tok} {k : Nat} {l : List (Addr × Obj)} {ns : List Int} (hc : o.cls = .type "tuple") (hd : o.data = .seq #[.str (stW n) t1, .str (stR n) t2] k) (t : TupsAre l ns) : TupsAre ((r, o) :: l) (n :: ns)
theorem TupsAre.snoc {r : Addr} {o : Obj} {n : Int} {t1 t2 : Tok} {k : Nat} (hc : o.cls = .type "tuple") (hd : o.data = .seq #[.str (stW n) t1, .str (stR n) t2] k) : ∀ {l : List (Addr × Obj)} {ns : List Int}, TupsAre l ns → TupsAre (l ++ [(r, o)]) (ns ++ [n])
  | _, _, .nil => .cons hc hd .nil
  | _, _, .cons hc' hd' t => .cons hc' hd' (t.snoc hc hd)
theorem TupsAre.len {l : List (Addr × Obj)} {ns : List Int} (h : TupsAre l ns) : l.length = ns.length := by
  induction h with
  | nil => rfl
  | cons _ _ _ ih => simp [ih]
theorem sub_snoc {a b c x : Addr × Obj} {kn tu : List (Addr × Obj)} : ∀ p ∈ a :: b :: c :: (kn ++ (tu ++ [x])), p ∈ x :: a :: b :: c :: (kn ++ tu) := by
  intro p hp
  simp only [List.mem_cons, List.mem_append, List.not_mem_nil, or_false] at hp ⊢
  rcases hp with h | h | h | h | h | h
  · exact .inr (.inl h)
  · exact .inr (.inr (.inl h))
  · exact .inr (.inr (.inr (.inl h)))
  · exact .inr (.inr (.inr (.inr (.inl h))))
  · exact .inr (.inr (.inr (.inr (.inr h))))
  · exact .inl h
theorem off_snoc {I C D r : Addr} {o oI oC oD : Obj} {kn tu : List (Addr × Obj)} (h : LCg.Off3 I C D (kn ++ tu)) (k : ∀ p ∈ (I, oI) :: (C, oC) :: (D, oD) :: (kn ++ tu), p.1 ≠ r) : LCg.Off3 I C D (kn ++ (tu ++ [(r, o)])) := by
  refine LCg.Off3.of fun p hp => ?_
  rw [← List.append_assoc] at hp
  rcases List.mem_append.mp hp with hp | hp
  · exact h.mem p hp
  · rw [List.mem_singleton.mp hp]
    exact ⟨(k _ (.head _)).symm, (k _ (.tail _ (.head _))).symm, (k _ (.tail _ (.tail _ (.head _)))).symm⟩
theorem take_snoc {ns : List Int} {i : Nat} {n : Int} (h : ns[i]? = some n) : ns.take (i + 1) = ns.take i ++ [n] := by
  rw [List.take_add_one, h]; rfl
def StJ (known : List (Addr × Obj)) (nums : List Int) (i : Nat) (ys : List Value) (news : List (Addr × Obj)) : Prop := ∃ tups, news = known ++ tups ∧ ys = refsOf tups ∧ TupsAre tups (nums.take i)
theorem stJ_snoc {known tups : List (Addr × Obj)} {nums : List Int} {i : Nat} {nm : Int} {r : Addr} {o : Obj} {t1 t2 : Tok} {h : Heap} (hT : TupsAre tups (nums.take i)) (hn : nums[i]? = some nm) (hr : h.get? r = some o) (ht : IsTup h r #[.str (stW nm) t1, .str (stR nm) t2]) : StJ known nums (i + 1) (refsOf tups ++ [.ref r]) (known ++ (tups ++ [(r, o)])) := by
  obtain ⟨o', e, hc, k, hd⟩ := ht
  rw [hr] at e
  cases e
  refine ⟨tups ++ [(r, o)], rfl, ?_, ?_⟩
  · show refsOf tups ++ [.ref r] = refsOf (tups ++ [(r, o)])
    unfold refsOf
    rw [List.map_append]; rfl
  · rw [take_snoc hn]
    exact hT.snoc hc hd
def notCell (o : Obj) : Bool := match o.data with
  | .cell _ => false
  | _ => true
theorem cell_off {h₀ h : Heap} {L c : Addr} {oc : Obj} {v : Option Value} {p : Addr × Obj} {news : List (Addr × Obj)} (N : News h₀ L h news) (hc : (c, oc) ∈ news) (hd : oc.data = .cell v) (hp : p ∈ news) (hn : notCell p.2 = true) : p.1 ≠ c := fun e => by
  have h1 := (N _ hc).1
  have h2 := (N _ hp).1
  dsimp only at h1
  rw [e, h1] at h2
  have h3 := Option.some.inj h2
  unfold notCell at hn
  rw [← h3, hd] at hn
  cases hn
theorem TupsAre.notCell {l : List (Addr × Obj)} {ns : List Int} (h : TupsAre l ns) : ∀ p ∈ l, notCell p.2 = true := by
  induction h with
  | nil => exact fun _ h => nomatch h
  | cons hc hd _ ih =>
    intro p hp
    rcases List.mem_cons.mp hp with rfl | hp
    · unfold Mine.notCell; rw [hd]
    · exact ih p hp
theorem store_cell {M : Model} {A : Around} {E : Value → Shared → Prop} {s : Shared} {env : Env} {h₀ : Heap} {L c : Addr} {x : Str} {v : Value} {v₀ : Option Value} {oc : Obj} {m : Str → Option Value} {rest : List (Addr × Obj)} {Q : Unit → Shared → Prop} (hk : env.scope.kind = .function) (hx : env.kindOf x = some .cell) (hc : env.cells.lookup x = some c)
    (F : Fr h₀ L s.heap m) (N : News h₀ L s.heap ((c, oc) :: rest)) (hoc : oc.data = .cell v₀) (hoff : ∀ p ∈ rest, p.1 ≠ c)
    (h : ∀ h' oc', Fr h₀ L h' m → News h₀ L h' ((c, oc') :: rest) → oc'.data = .cell (some v) → Q () { s with heap := h' }) : wpAny M A (storeName env x v) Q E s := by
  refine wpAny_storeName_cell hk hx hc ⟨oc, (N _ (.head _)).1, hoc⟩ fun h' hv hs => ?_
  obtain ⟨oc', hg, hd⟩ := hv
  have hcL := (N _ (.head _)).2.1
  have hc0 := (N _ (.head _)).2.2
  dsimp only at hcL hc0
  refine h h' oc' ⟨F.ns.sameBut hs (Ne.symm hcL), fun b o e => (hs.2 b (fun q => by rw [q, hc0] at e; cases e)).trans (F.keep b o e), F.above⟩ (fun p hp => ?_) hd
  rcases List.mem_cons.mp hp with rfl | hp
  · exact ⟨hg, hcL, hc0⟩
  · exact ⟨(hs.2 _ (hoff p hp)).trans (N p (.tail _ hp)).1, (N p (.tail _ hp)).2⟩
theorem pickS {h₀ h : Heap} {L : Addr} {p0 p1 p2 p3 p4 p5 p6 p7 : Addr × Obj} {tl : List (Addr × Obj)} (N : News h₀ L h (p0 :: p1 :: p2 :: p3 :: p4 :: p5 :: p6 :: p7 :: tl)) : News h₀ L h (p5 :: p0 :: p2 :: p3 :: p4 :: p6 :: p7 :: tl) := fun p hp => N p (by
  simp only [List.mem_cons] at hp ⊢
  rcases hp with h | h | h | h | h | h | h | h <;> simp [h])
theorem item0 {prog : Program} {w : World} {A : Around} {E : Value → Shared → Prop} {s : Shared} {value slice : PySem.Expr} {l : Addr} {vs : List Value} {x : Value} {u : Tok} {Q : Value → Shared → Prop} (hl : s.heap.IsList l vs.toArray) (hx : vs[0]? = some x) (h : Q x s)
    (hs : subscripted slice false (.ref l) (.int 0 u) = operate [.ref l, .int 0 u] (getItem (.ref l) (.int 0 u)) := by with_unfolding_all rfl) : wpAny (model prog w) A (subscriptTail value slice (.ref l) (.int 0 u)) Q E s :=
  tail_any hl.typeIs slot_list_getitem.lookup (wpAny_getItem_list hl (by decide) (by decide) (by simpa using hx) h) hs
abbrev intsOfI {vs : List Value} {ns : List Int} (_ : IntsAre vs ns) : List Int := ns
abbrev listOfI {vs : List Value} {ns : List Int} (_ : IntsAre vs ns) : List Value := vs
theorem anew_L16 : True := by
  w_top off
  k_with_none
  trivial
set_option maxHeartbeats 1000000
theorem TupsAre.inv {l : List (Addr × Obj)} {n : Int} {ns : List Int} (h : TupsAre l (n :: ns)) : ∃ r o t1 t2 k l', l = (r, o) :: l' ∧ o.cls = .type "tuple" ∧ o.data = .seq #[.str (stW n) t1, .str (stR n) t2] k ∧ TupsAre l' ns := by
  cases h with
  | cons hc hd t => exact ⟨_, _, _, _, _, _, rfl, hc, hd, t⟩
theorem TupsAre.at {l : List (Addr × Obj)} {ns : List Int} (h : TupsAre l ns) : ∀ (i : Nat) p n, l[i]? = some p → ns[i]? = some n → ∃ t1 t2 k, p.2.cls = .type "tuple" ∧ p.2.data = .seq #[.str (stW n) t1, .str (stR n) t2] k := by
  induction h with
  | nil => intro i p n h; cases h
  | cons hc hd _ ih =>
    intro i p n h1 h2
    cases i with
    | zero =>
      cases h1
      cases h2
      exact ⟨_, _, _, hc, hd⟩
    | succ i => exact ih i p n (by simpa using h1) (by simpa using h2)
def pc (i : Int) : Int := ([43, 47, 45, 95, 65, 66] : List Int).getD i.toNat 0
theorem pc_in (i : Int) : 0 ≤ pc i ∧ pc i < 128 := by
  unfold pc
  rw [List.getD_eq_getElem?_getD]
  cases e : ([43, 47, 45, 95, 65, 66] : List Int)[i.toNat]? with
  | none => exact ⟨by decide, by decide⟩
  | some x =>
    have := List.mem_of_getElem? e
    simp only [List.mem_cons, List.not_mem_nil, or_false] at this
    simp only [Option.getD_some]
    omega
theorem item_pc {i : Int} (h : 0 ≤ i ∧ i < 6) : Txt.item (Str.ofString "+/-_AB") i = ⟨#[(pc i).toNat]⟩ := by
  have key : ∀ n : Fin 6, Txt.item (Str.ofString "+/-_AB") (n.val : Int) = ⟨#[(pc (n.val : Int)).toNat]⟩ := by decide +kernel
  have e : i = ((i.toNat : Nat) : Int) := by omega
  rw [e]
  exact key ⟨i.toNat, by omega⟩
theorem fmod6 (n : Int) : 0 ≤ n.fmod 6 ∧ n.fmod 6 < 6 := by
  rw [Int.fmod_eq_emod_of_nonneg _ (by decide)]
  omega
def w0 (n : Int) : Int := pc (n.fmod 6)
def w1 (n : Int) : Int := pc ((n.fdiv 6).fmod 6)
def r0 (n : Int) : Int := pc ((n.fdiv 36).fmod 6)
def r1 (n : Int) : Int := pc (((n.fdiv 36).fmod 6 + 1 + (n.fdiv 216).fmod 5).fmod 6)
theorem stW_eq (n : Int) : stW n = str2 (w0 n) (w1 n) := by
  unfold stW
  rw [item_pc (fmod6 _), item_pc (fmod6 _)]
  rfl
theorem stR_eq (n : Int) : stR n = str2 (r0 n) (r1 n) := by
  unfold stR
  rw [item_pc (fmod6 _), item_pc (fmod6 _)]
  rfl
theorem stW_len (n : Int) : (stW n).length = 2 := by rw [stW_eq]; rfl
theorem stR_len (n : Int) : (stR n).length = 2 := by rw [stR_eq]; rfl
def mF (n : Int) : List Int := mapF LETTERS (stW n) (stR n)
/-- the maps -/
def mssF : List Int → List (List Int)
  | [] => []
  | n :: r => (r.foldl (fun (st : List (List Int) × List Int) k => (st.1 ++ [st.2.map (joinF (mF k))], st.2.map (joinF (mF k)))) ([mF n], mF n)).1
def mssS (n : Int) (r : List Int) : List (List Int) × List Int := r.foldl (fun (st : List (List Int) × List Int) k => (st.1 ++ [st.2.map (joinF (mF k))], st.2.map (joinF (mF k)))) ([mF n], mF n)
theorem mssS_snoc (n : Int) (r : List Int) (k : Int) : mssS n (r ++ [k]) = ((mssS n r).1 ++ [(mssS n r).2.map (joinF (mF k))], (mssS n r).2.map (joinF (mF k))) := by
  unfold mssS
  rw [List.foldl_append]; rfl
theorem mssS_len (n : Int) : ∀ (r : List Int), (mssS n r).1.length = r.length + 1 := by
  intro r
  unfold mssS
  have key : ∀ (r : List Int) (st : List (List Int) × List Int), (r.foldl (fun (st : List (List Int) × List Int) k => (st.1 ++ [st.2.map (joinF (mF k))], st.2.map (joinF (mF k)))) st).1.length = r.length + st.1.length := by
    intro r
    induction r with
    | nil => intro st; simp
    | cons k r ih => intro st; rw [List.foldl_cons, ih]; simp; omega
  rw [key]; rfl
/-- kept lists of ints, in any make -/
inductive MapsAre : List (Addr × Obj) → List (List Int) → Prop
  | nil : MapsAre [] []
  | cons {a : Addr} {ys : List Value} {k : Nat} {ns : List Int} {l : List (Addr × Obj)} {r : List (List Int)} (h : IntsAre ys ns) (t : MapsAre l r) : MapsAre ((a, W.listOf ys.toArray k) :: l) (ns :: r)
theorem MapsAre.snoc {a : Addr} {ys : List Value} {k : Nat} {ns : List Int} (hy : IntsAre ys ns) : ∀ {l : List (Addr × Obj)} {r : List (List Int)}, MapsAre l r → MapsAre (l ++ [(a, W.listOf ys.toArray k)]) (r ++ [ns])
  | _, _, .nil => .cons hy .nil
  | _, _, .cons h t => .cons h (t.snoc hy)
theorem MapsAre.len {l : List (Addr × Obj)} {r : List (List Int)} (h : MapsAre l r) : l.length = r.length := by
  induction h with
  | nil => rfl
  | cons _ _ ih => simp [ih]
theorem MapsAre.last {l : List (Addr × Obj)} {r : List (List Int)} (h : MapsAre l r) : ∀ ns, r.getLast? = some ns → ∃ a ys k, l.getLast? = some (a, W.listOf ys.toArray k) ∧ IntsAre ys ns := by
  induction h with
  | nil => intro ns h; cases h
  | cons h t ih =>
    rename_i l r
    intro ns hn
    rw [List.getLast?_cons] at hn ⊢
    cases hq : r.getLast? with
    | none =>
      rw [hq] at hn
      cases hn
      have : r = [] := List.getLast?_eq_none_iff.mp hq
      subst this
      cases t
      exact ⟨_, _, _, rfl, h⟩
    | some m =>
      rw [hq] at hn
      cases hn
      obtain ⟨a, ys, k, h1, h2⟩ := ih m hq
      exact ⟨a, ys, k, by rw [h1]; rfl, h2⟩
theorem MapsAre.at {l : List (Addr × Obj)} {r : List (List Int)} (h : MapsAre l r) : ∀ (i : Nat) p ns, l[i]? = some p → r[i]? = some ns → ∃ ys k, p.2 = W.listOf (List.toArray ys) k ∧ IntsAre ys ns := by
  induction h with
  | nil => intro i p n h; cases h
  | cons h _ ih =>
    intro i p n h1 h2
    cases i with
    | zero =>
      cases h1
      cases h2
      exact ⟨_, _, rfl, h⟩
    | succ i => exact ih i p n (by simpa using h1) (by simpa using h2)
theorem pick_from (vs : List Value) {x : Int} (h : 0 ≤ x) : slicePick vs.toArray (some x) none none = (vs.drop x.toNat).toArray := by
  have e : sliceBounds (some x) none none vs.toArray.size = (((min x.toNat vs.toArray.size : Nat) : Int), ((vs.toArray.size : Nat) : Int), 1) := by
    simp only [sliceBounds, Option.getD_none, show (1 : Int) > 0 by decide, if_true, if_neg (show ¬ (x < 0) by omega)]
    congr 1
    omega
  rw [kmk_pick_nat _ e]
  show ((vs.drop (min x.toNat vs.toArray.size)).take (vs.toArray.size - min x.toNat vs.toArray.size)).toArray = _
  rw [List.size_toArray, kmk_drop_min, List.take_of_length_le (by rw [List.length_drop]; omega)]
section
variable {prog : Program} {w : World} {A : Around} {E : Value → Shared → Prop} {s : Shared} {h₀ : Heap} {L l : Addr} {m : Str → Option Value} {news : List (Addr × Obj)} {value slice : PySem.Expr} {vs : List Value} {vl vu : Value} {Q : Value → Shared → Prop}
theorem from_slice {x : Int} (F : Fr h₀ L s.heap m) (N : News h₀ L s.heap news) (hl : s.heap.IsList l vs.toArray) (pl : IsPart vl (some x)) (pu : IsPart vu none) (h0 : 0 ≤ x)
    (h : ∀ D h', Fr h₀ L h' m → News h₀ L h' ((D, W.listOf (vs.drop x.toNat).toArray 0) :: news) → (∀ p ∈ news, p.1 < D) → Q (.ref D) { s with heap := h' })
    (hs : subscripted slice false (.ref l) (.ref s.heap.objs.size) = operate [.ref s.heap.objs.size, .ref l] (getItem (.ref l) (.ref s.heap.objs.size))) (ht : ∀ r, letTemporaryGo value (.ref l) r = pure ()) (hz : vs.toArray.size ≤ sizeLine) :
    wpAny (model prog w) A (subscriptTail value slice (.ref l) (.ref s.heap.objs.size)) Q E { s with heap := s.heap.push { cls := .type "slice", data := .fields #[vl, vu, .none] } } := by
  refine kmk_slice F N hl pl pu (fun D h' F' N' l1 => ?_) hs ht hz
  rw [pick_from vs h0] at N'
  exact h D h' F' N' l1
end
theorem unrPost_mono {h₀ : Heap} {L : Addr} {s₁ : Shared} {its : List (Addr × Obj)} {r r' : (Str → Option Value) → List (Addr × Obj) → Prop} {Q : Flow → Shared → Prop} {f : Flow} {s₂ : Shared} (h : UnrPostW h₀ L s₁ its r Q f s₂) (k : ∀ m n, r m n → r' m n) : UnrPostW h₀ L s₁ its r' Q f s₂ := by
  have e : UnrEndW h₀ L s₁ its r s₂ → UnrEndW h₀ L s₁ its r' s₂ := fun ⟨a, b, c, d, e1, e2, e3, e4, e5⟩ => ⟨a, b, c, d, e1, e2, e3, e4, k _ _ e5⟩
  cases f with
  | ret v => exact h
  | brk => exact h
  | cont => exact e h
  | next => exact e h
/-- a loop over a kept list by what holds between its turns -/
theorem items_ind {prog : Program} {w : World} {A : Around} {E : Value → Shared → Prop} {h₀ : Heap} {env : Env} {target : PySem.Expr} {body : List Stmt} {Q : Flow → Shared → Prop} {s : Shared} {I : Addr} {cn : String} {keep news₀ : List (Addr × Obj)} {m₀ : Str → Option Value} {xs : List Value} (J : Nat → (Str → Option Value) → List (Addr × Obj) → Prop)
    (turn : ∀ i v m news oI h tk, xs[i]? = some v → J i m news → oI.cls = .type cn → Fr h₀ env.locals h m → News h₀ env.locals h ((I, oI) :: news) →
      wpAny (model prog w) A (assign target env v) (fun _ s₂ => wpAny (model prog w) A (execs body env) (UnrPostW h₀ env.locals { s with heap := h, toks := tk } [(I, oI)] (fun m' n' => SubL keep n' ∧ J (i + 1) m' n') Q) E s₂) E { s with heap := h, toks := tk })
    (done : ∀ m news h tk, J xs.length m news → Fr h₀ env.locals h m → News h₀ env.locals h news → Q .next { s with heap := h, toks := tk })
    (h0 : J 0 m₀ news₀) : ItemsRest prog w A E h₀ env target body Q s [(I, cn)] keep (xs.map .val) m₀ news₀ := by
  have key : ∀ (ys : List Value) (i : Nat), (∀ j, ys[j]? = xs[i + j]?) → i + ys.length = xs.length → ∀ m news, J i m news → ItemsRest prog w A E h₀ env target body Q s [(I, cn)] keep (ys.map .val) m news := by
    intro ys
    induction ys with
    | nil =>
      intro i _ e m news hJ
      refine ItemsRest.zero fun h tk F N => done m news h tk ?_ F N
      rw [← e]
      exact hJ
    | cons v ys ih =>
      intro i hget e m news hJ
      refine ItemsRest.val fun h tk F => AllObj.cons fun o hc => AllObj.nil fun N => ?_
      refine wpAny_mono (turn i v m news o h tk (by have := hget 0; simpa using this.symm) hJ hc F N) (fun u s₂ h₂ => wpAny_mono h₂ (fun f s₃ h₃ => unrPost_mono h₃ fun m' n' hJ' => ⟨hJ'.1, ih (i + 1) (fun j => ?_) (by simp at e; omega) m' n' hJ'.2⟩) fun _ _ e => e) fun _ _ e => e
      have := hget (j + 1)
      rw [List.getElem?_cons_succ] at this
      rw [this]
      congr 1
      omega
  exact key xs 0 (fun j => by rw [Nat.zero_add]) (Nat.zero_add _) m₀ news₀ h0
theorem anew_P1 : True := by
  w_top off
  k_with_none
  trivial
set_option maxHeartbeats 1000000
/-- the signs' codes -/
def letC : List Int := [65,66,67,68,69,70,71,72,73,74,75,76,77,78,79,80,81,82,83,84,85,86,87,88,89,90,97,98,99,100,101,102,103,104,105,106,107,108,109,110,111,112,113,114,115,116,117,118,119,120,121,122,48,49,50,51,52,53,54,55,56,57,43,47]
def letV (c : Int) : Int := if c ∈ letC then (letC.idxOf c : Int) else -1
/-- where a sign leads, in plain words -/
def leadP (a b c : Int) : Int := if c = a then 62 else if c = b then 63 else letV c
def poolC : List Int := [43, 47, 45, 95, 65, 66]
def someC : List Int := letC ++ [45, 95]
theorem pool_mem : ∀ a ∈ poolC, a ∈ someC := by decide +kernel
theorem some_pos : ∀ a ∈ someC, 0 ≤ a := by decide +kernel
theorem find_ab : ∀ a ∈ poolC, ∀ b ∈ poolC, Txt.find (str2 a b) ⟨#[a.toNat]⟩ = 0 ∧ (b ≠ a → Txt.find (str2 a b) ⟨#[b.toNat]⟩ = 1) := by decide +kernel
theorem rd_part : ∀ a ∈ poolC, ∀ b ∈ poolC, ∀ c ∈ someC, (Builtin.Str.occurrences (str2 a b) ⟨#[c.toNat]⟩ 0 (str2 a b).length 1).isEmpty = (decide (c ≠ a) && decide (c ≠ b)) ∧ (c = a → Txt.find (str2 a b) ⟨#[c.toNat]⟩ = 0) ∧ (c ≠ a → c = b → Txt.find (str2 a b) ⟨#[c.toNat]⟩ = 1) := by
  intro a ha b hb c hc
  obtain ⟨h1, h2⟩ := find_ab a ha b hb
  have pa := some_pos a (pool_mem a ha)
  have pb := some_pos b (pool_mem b hb)
  have pc := some_pos c hc
  refine ⟨?_, fun e => e ▸ h1, fun n e => ?_⟩
  · have h := StrLaws.found_one (str2 a b) c.toNat
    rw [← Bool.not_not (Builtin.Str.occurrences (str2 a b) ⟨#[c.toNat]⟩ 0 (str2 a b).length 1).isEmpty, h]
    have e : (c.toNat ∈ (str2 a b).cps.toList) ↔ (c = a ∨ c = b) := by
      simp only [str2, List.mem_cons, List.not_mem_nil, or_false]
      omega
    simp only [e]
    by_cases e1 : c = a <;> by_cases e2 : c = b <;> simp [e1, e2]
  · subst e
    exact h2 n
theorem let_part : ∀ c ∈ someC, (if (Builtin.Str.occurrences LETTERS ⟨#[c.toNat]⟩ 0 LETTERS.length 1).isEmpty = false then Txt.find LETTERS ⟨#[c.toNat]⟩ else -1) = letV c := by decide +kernel
theorem lead_eq {a b c : Int} (ha : a ∈ poolC) (hb : b ∈ poolC) (hc : c ∈ someC) : lead LETTERS (str2 a b) c = leadP a b c := by
  obtain ⟨h1, h2, h3⟩ := rd_part a ha b hb c hc
  have h4 := let_part c hc
  unfold lead leadN leadP
  rw [h1]
  by_cases e1 : c = a
  · rw [if_pos e1, if_pos (by simp [e1]), h2 e1]; rfl
  · by_cases e2 : c = b
    · rw [if_neg e1, if_pos e2, if_pos (by simp [e2]), h3 e1 e2]; rfl
    · rw [if_neg e1, if_neg e2, if_neg (by simp [e1, e2])]
      exact h4
theorem pc_mem {i : Int} : pc i ∈ poolC ∨ pc i = 0 := by
  unfold pc
  rw [List.getD_eq_getElem?_getD]
  cases e : ([43, 47, 45, 95, 65, 66] : List Int)[i.toNat]? with
  | none => exact .inr rfl
  | some x => exact .inl (List.mem_of_getElem? e)
theorem pc_pool {i : Int} (h : 0 ≤ i ∧ i < 6) : pc i ∈ poolC := by
  have key : ∀ n : Fin 6, pc (n.val : Int) ∈ poolC := by decide
  have e : i = ((i.toNat : Nat) : Int) := by omega
  rw [e]
  exact key ⟨i.toNat, by omega⟩
theorem w0_pool (n : Int) : w0 n ∈ poolC := pc_pool (fmod6 _)
theorem w1_pool (n : Int) : w1 n ∈ poolC := pc_pool (fmod6 _)
theorem r0_pool (n : Int) : r0 n ∈ poolC := pc_pool (fmod6 _)
theorem r1_pool (n : Int) : r1 n ∈ poolC := pc_pool (fmod6 _)
theorem pool_some {c : Int} (h : c ∈ poolC) : c ∈ someC := by
  have key : ∀ c ∈ poolC, c ∈ someC := by decide
  exact key c h
theorem codes_slice : KStt.codes (Txt.slice LETTERS none (some 62)) = letC.take 62 := by decide +kernel
theorem codes_app (x y : Str) : KStt.codes (x ++ y) = KStt.codes x ++ KStt.codes y := by
  have e : (x ++ y).cps = x.cps ++ y.cps := rfl
  unfold KStt.codes
  rw [e, Array.toList_append, List.map_append]
/-- the map of one station, in plain words -/
def mapP (n : Int) : List Int := (letC.take 62 ++ [w0 n, w1 n]).map (leadP (r0 n) (r1 n))
theorem mF_eq (n : Int) : mF n = mapP n := by
  unfold mF mapF mapP
  rw [codes_app, codes_slice, stW_eq, stR_eq]
  have e : KStt.codes (str2 (w0 n) (w1 n)) = [w0 n, w1 n] := by
    have h0 := pc_in (n.fmod 6)
    have h1 := pc_in ((n.fdiv 6).fmod 6)
    show [((w0 n).toNat : Int), ((w1 n).toNat : Int)] = _
    have : 0 ≤ w0 n := h0.1
    have : 0 ≤ w1 n := h1.1
    rw [Int.toNat_of_nonneg (by assumption), Int.toNat_of_nonneg (by assumption)]
  rw [e]
  refine List.map_congr_left fun c hc => lead_eq (r0_pool n) (r1_pool n) ?_
  rcases List.mem_append.mp hc with hc | hc
  · exact List.mem_append_left _ (List.mem_of_mem_take hc)
  · simp only [List.mem_cons, List.not_mem_nil, or_false] at hc
    rcases hc with rfl | rfl
    · exact pool_some (w0_pool n)
    · exact pool_some (w1_pool n)
def MapOk (l : List Int) : Prop := l.length = 64 ∧ ∀ f ∈ l, -1 ≤ f ∧ f < 64
theorem letV_in (c : Int) : -1 ≤ letV c ∧ letV c < 64 := by
  unfold letV
  split
  · rename_i h
    have := List.idxOf_lt_length_iff.mpr h
    have e : letC.length = 64 := rfl
    omega
  · omega
theorem mapP_ok (n : Int) : MapOk (mapP n) := by
  refine ⟨by unfold mapP; rw [List.length_map, List.length_append, List.length_take]; rfl, fun f hf => ?_⟩
  unfold mapP at hf
  obtain ⟨c, _, rfl⟩ := List.mem_map.mp hf
  unfold leadP
  have := letV_in c
  split
  · omega
  · split <;> omega
theorem mF_ok (n : Int) : MapOk (mF n) := mF_eq n ▸ mapP_ok n
theorem getD_ok {l : List Int} (h : MapOk l) (i : Nat) : -1 ≤ l.getD i 0 ∧ l.getD i 0 < 64 := by
  rw [List.getD_eq_getElem?_getD]
  cases e : l[i]? with
  | none => simp
  | some x => simpa using h.2 x (List.mem_of_getElem? e)
theorem join_ok {a b : List Int} (ha : MapOk a) (hb : MapOk b) : MapOk (a.map (joinF b)) := by
  refine ⟨by rw [List.length_map]; exact ha.1, fun f hf => ?_⟩
  obtain ⟨c, _, rfl⟩ := List.mem_map.mp hf
  unfold joinF
  split
  · omega
  · exact getD_ok hb _
theorem mssS_ok (n : Int) (r : List Int) : MapOk (mssS n r).2 ∧ (mssS n r).1.getLast? = some (mssS n r).2 ∧ ∀ ms ∈ (mssS n r).1, MapOk ms := by
  have key : ∀ (r : List Int) (st : List (List Int) × List Int), MapOk st.2 → st.1.getLast? = some st.2 → (∀ ms ∈ st.1, MapOk ms) →
      MapOk (r.foldl (fun (st : List (List Int) × List Int) k => (st.1 ++ [st.2.map (joinF (mF k))], st.2.map (joinF (mF k)))) st).2 ∧
      (r.foldl (fun (st : List (List Int) × List Int) k => (st.1 ++ [st.2.map (joinF (mF k))], st.2.map (joinF (mF k)))) st).1.getLast? = some (r.foldl (fun (st : List (List Int) × List Int) k => (st.1 ++ [st.2.map (joinF (mF k))], st.2.map (joinF (mF k)))) st).2 ∧
      ∀ ms ∈ (r.foldl (fun (st : List (List Int) × List Int) k => (st.1 ++ [st.2.map (joinF (mF k))], st.2.map (joinF (mF k)))) st).1, MapOk ms := by
    intro r
    induction r with
    | nil => exact fun st h1 h2 h3 => ⟨h1, h2, h3⟩
    | cons k r ih =>
      intro st h1 h2 h3
      rw [List.foldl_cons]
      have hj := join_ok h1 (mF_ok k)
      refine ih _ hj (by simp) fun ms hm => ?_
      rcases List.mem_append.mp hm with hm | hm
      · exact h3 ms hm
      · rw [List.mem_singleton.mp hm]; exact hj
  exact key r _ (mF_ok n) rfl fun ms hm => by rw [List.mem_singleton.mp hm]; exact mF_ok n
theorem anew_L17 : True := by
  w_top off
  k_with_none
  trivial
set_option maxHeartbeats 1000000
theorem pickM {h₀ h : Heap} {L : Addr} {p0 p1 p2 p3 p4 p5 p6 p7 p8 : Addr × Obj} {tl : List (Addr × Obj)} (N : News h₀ L h (p0 :: p1 :: p2 :: p3 :: p4 :: p5 :: p6 :: p7 :: p8 :: tl)) : News h₀ L h (p6 :: p0 :: p1 :: p2 :: p3 :: p4 :: p5 :: p7 :: p8 :: tl) := fun p hp => N p (by
  simp only [List.mem_cons] at hp ⊢
  rcases hp with h | h | h | h | h | h | h | h | h | h <;> simp [h])
theorem cells_off {h₀ h : Heap} {L c : Addr} {oc : Obj} {v : Option Value} {rest : List (Addr × Obj)} (N : News h₀ L h ((c, oc) :: rest)) (hd : oc.data = .cell v) (h : ∀ p ∈ rest, notCell p.2 = true ∨ p.1 ≠ c) : ∀ p ∈ rest, p.1 ≠ c := fun p hp => by
  rcases h p hp with q | q
  · exact cell_off N (.head _) hd (.tail _ hp) q
  · exact q
theorem MapsAre.cls {l : List (Addr × Obj)} {r : List (List Int)} (h : MapsAre l r) : ∀ p ∈ l, p.2.cls = .type "list" := by
  induction h with
  | nil => exact fun _ h => nomatch h
  | cons _ _ ih =>
    intro p hp
    rcases List.mem_cons.mp hp with rfl | hp
    · rfl
    · exact ih p hp
theorem cls_ne {h₀ h : Heap} {L : Addr} {news : List (Addr × Obj)} {p q : Addr × Obj} (N : News h₀ L h news) (hp : p ∈ news) (hq : q ∈ news) (n : p.2.cls ≠ q.2.cls) : p.1 ≠ q.1 := fun e => by
  have h1 := (N p hp).1
  have h2 := (N q hq).1
  rw [e, h2] at h1
  exact n (congrArg Obj.cls (Option.some.inj h1)).symm
/-- the ledger before a turn: rj, rm, I, then the list of the maps -/
theorem pickA {h₀ h : Heap} {L : Addr} {a b c d : Addr × Obj} {l : List (Addr × Obj)} (N : News h₀ L h (a :: b :: c :: d :: l)) : News h₀ L h (d :: a :: c :: l) := fun p hp => N p (by
  simp only [List.mem_cons] at hp ⊢
  rcases hp with h | h | h | h
  · exact .inr (.inr (.inr (.inl h)))
  · exact .inl h
  · exact .inr (.inr (.inl h))
  · exact .inr (.inr (.inr (.inr h))))
theorem pickL {h₀ h : Heap} {L : Addr} {p0 p1 p2 p3 p4 p5 p6 p7 p8 p9 : Addr × Obj} {tl : List (Addr × Obj)} (N : News h₀ L h (p0 :: p1 :: p2 :: p3 :: p4 :: p5 :: p6 :: p7 :: p8 :: p9 :: tl)) : News h₀ L h (p2 :: ((p0 :: p1 :: p4 :: p5 :: p6 :: p7 :: p8 :: p9 :: tl) ++ [p3])) := fun p hp => N p (by
  simp only [List.mem_cons, List.mem_append, List.not_mem_nil, or_false] at hp ⊢
  rcases hp with h | (h | h | h | h | h | h | h | h | h) | h <;> simp [h])
theorem hknl {rm Ls lm c3 c2 D ld lk c1 c0 s0 : Addr} {x0 x1 x2 x3 x4 x5 x6 x7 x8 : Obj} {tr : List (Addr × Obj)} (hLs : @LT.lt Nat _ lm Ls) (h : @LT.lt Nat _ rm lm ∧ @LT.lt Nat _ c2 lm ∧ @LT.lt Nat _ D lm ∧ @LT.lt Nat _ ld lm ∧ @LT.lt Nat _ lk lm ∧ @LT.lt Nat _ c3 lm ∧ @LT.lt Nat _ c1 lm ∧ @LT.lt Nat _ c0 lm ∧ @LT.lt Nat _ s0 lm ∧ AllLt lm tr) :
    ∀ q ∈ (Ls, x0) :: (c3, x1) :: (c2, x2) :: (D, x3) :: (ld, x4) :: (lk, x5) :: (c1, x6) :: (c0, x7) :: (s0, x8) :: tr, q.1 ≠ lm := by
  obtain ⟨_, a2, a3, a4, a5, a6, a7, a8, a9, a10⟩ := h
  refine List.forall_mem_cons.mpr ⟨Nat.ne_of_gt hLs, List.forall_mem_cons.mpr ⟨Nat.ne_of_lt a6, List.forall_mem_cons.mpr ⟨Nat.ne_of_lt a2, List.forall_mem_cons.mpr ⟨Nat.ne_of_lt a3, List.forall_mem_cons.mpr ⟨Nat.ne_of_lt a4, List.forall_mem_cons.mpr ⟨Nat.ne_of_lt a5, List.forall_mem_cons.mpr ⟨Nat.ne_of_lt a7, List.forall_mem_cons.mpr ⟨Nat.ne_of_lt a8, List.forall_mem_cons.mpr ⟨Nat.ne_of_lt a9, fun q hq => Nat.ne_of_lt (ktn_ltOf a10 q hq)⟩⟩⟩⟩⟩⟩⟩⟩⟩
def LawJ (ld lm : Addr) (n0 : Int) (nr : List Int) (kn : List (Addr × Obj)) (i : Nat) (m : Str → Option Value) (news : List (Addr × Obj)) : Prop :=
  m (Str.ofString "draws") = some (.ref ld) ∧ ∃ k mobjs, news = (lm, W.listOf (refsOf mobjs).toArray k) :: (kn ++ mobjs) ∧ MapsAre mobjs (mssS n0 (nr.take i)).1 ∧ ∀ p ∈ mobjs, p.1 ≠ lm
theorem lawJ_end {h₀ h : Heap} {L I ld lm rj : Addr} {n0 kk : Int} {nr : List Int} {kn mobjs keep : List (Addr × Obj)} {i k kj : Nat} {m : Str → Option Value} {vj : List Value} {oI : Obj} {s₁ : Shared} {tk : Nat} (F : Fr h₀ L h m)
    (N : News h₀ L h ((lm, W.listOf ((refsOf mobjs).toArray.push (.ref rj)) (k + 1)) :: (rj, W.listOf vj.toArray kj) :: (I, oI) :: (kn ++ mobjs))) (hm : m (Str.ofString "draws") = some (.ref ld)) (hM : MapsAre mobjs (mssS n0 (nr.take i)).1) (hoff : ∀ p ∈ mobjs, p.1 ≠ lm)
    (hk : nr[i]? = some kk) (hj : IntsAre vj ((mssS n0 (nr.take i)).2.map (joinF (mF kk)))) (hjl : rj ≠ lm) (hc : oI.cls = .type "list_iterator") (hkn : ∀ p ∈ kn, p.1 ≠ I) (hlI : lm ≠ I) (hkeep : ∀ mo, SubL keep ((lm, mo) :: (kn ++ (mobjs ++ [(rj, W.listOf vj.toArray kj)])))) :
    UnrEndW h₀ L s₁ [(I, oI)] (fun m' n' => SubL keep n' ∧ LawJ ld lm n0 nr kn (i + 1) m' n') { s₁ with heap := h, toks := tk } := by
  have hM' := hM.snoc (a := rj) (k := kj) hj
  have e1 : (refsOf mobjs).toArray.push (.ref rj) = (refsOf (mobjs ++ [(rj, W.listOf vj.toArray kj)])).toArray := by
    unfold refsOf
    rw [List.push_toArray, List.map_append]; rfl
  rw [e1] at N
  refine ⟨h, tk, m, (lm, W.listOf (refsOf (mobjs ++ [(rj, W.listOf vj.toArray kj)])).toArray (k + 1)) :: (kn ++ (mobjs ++ [(rj, W.listOf vj.toArray kj)])), rfl, F, ?_, ?_, hkeep _, hm, k + 1, mobjs ++ [(rj, W.listOf vj.toArray kj)], rfl, ?_, ?_⟩
  · intro p hp
    refine N p ?_
    simp only [List.cons_append, List.nil_append, List.mem_cons, List.mem_append, List.not_mem_nil, or_false] at hp ⊢
    rcases hp with h | h | h | h | h
    · exact .inr (.inr (.inl h))
    · exact .inl h
    · exact .inr (.inr (.inr (.inl h)))
    · exact .inr (.inr (.inr (.inr h)))
    · exact .inr (.inl h)
  · intro p hp q hq
    rw [List.mem_singleton.mp hq]
    rcases List.mem_cons.mp hp with rfl | hp
    · exact hlI
    · rcases List.mem_append.mp hp with hp | hp
      · exact hkn p hp
      · rcases List.mem_append.mp hp with hp | hp
        · exact cls_ne N (.tail _ (.tail _ (.tail _ (List.mem_append_right _ hp)))) (.tail _ (.tail _ (.head _))) (by rw [hM.cls p hp, hc]; decide)
        · rw [List.mem_singleton.mp hp]
          exact cls_ne N (p := (rj, W.listOf vj.toArray kj)) (.tail _ (.head _)) (.tail _ (.tail _ (.head _))) (by rw [hc]; show Value.type "list" ≠ Value.type "list_iterator"; decide)
  · rw [take_snoc hk, mssS_snoc]
    exact hM'
  · intro p hp
    rcases List.mem_append.mp hp with hp | hp
    · exact hoff p hp
    · rw [List.mem_singleton.mp hp]; exact hjl
theorem anew_L18 : True := by
  w_top off
  k_with_none
  trivial
set_option maxHeartbeats 1000000
theorem newEnv_cells {M : Model} {A : Around} {E : Value → Shared → Prop} {s : Shared} {scope : Scope} {globals : Addr} {closure : List (Str × Addr)} {qual : Str} {func : Option Addr} {code : Value} {outer : Env} {builtins : Addr} {Q : Env → Shared → Prop}
    (hQ : Q (newEnv scope s.heap.objs.size globals (cellsFrom (s.heap.objs.size + 1) scope.names closure) qual func code (some outer) builtins) { s with heap := pushCells (s.heap.push { cls := .type "dict", data := .dict #[] }) scope.names }) :
    wpAny M A (newFunctionEnv scope globals closure [] qual func code (some outer) builtins) Q E s := by
  simp only [newFunctionEnv, Option.isSome_some, if_true]
  refine wpAny_bind (wpAny_alloc ?_)
  refine wpAny_bind (wpAny_layCells _ (fun name kind cells => by cases hkc : kind == NameKind.cell <;> simp [hkc]) _ _ _ _ ?_)
  rw [show ({ s with heap := s.heap.push { cls := .type "dict", data := .dict #[] } } : Shared).heap.objs.size = s.heap.objs.size + 1 from Heap.size_push ..]
  refine wpAny_bind ?_
  rw [List.forIn_nil]
  exact wpAny_pure (wpAny_pure hQ)
def Off4 (I C c D : Addr) (news : List (Addr × Obj)) : Prop := ∀ p ∈ news, p.1 ≠ I ∧ p.1 ≠ C ∧ p.1 ≠ c ∧ p.1 ≠ D
def CellTurn (h₀ : Heap) (L : Addr) (m : Str → Option Value) (s : Shared) (ax : Addr) (its : Array Value) (I : Addr) (oI : Obj) (C : Addr) (oC : Obj) (c : Addr) (oc : Obj) (D : Addr) (oD : Obj) (J : Value → List (Addr × Obj) → Prop) (y : Value) (s₂ : Shared) : Prop :=
  ∃ h' tk news', s₂ = { s with heap := h', toks := tk } ∧ Fr h₀ L h' m ∧ News h₀ L h' ((c, oc) :: (I, oI) :: (C, oC) :: (D, oD) :: news') ∧ Off4 I C c D news' ∧ LCg.SrcAt h₀ ax its news' ∧ J y news'
section
variable {prog : Program} {w : World} {A : Around} {E : Value → Shared → Prop} {s : Shared} {h₀ : Heap} {L : Addr} {m : Str → Option Value} {env : Env}
theorem block_C {elt iter : PySem.Expr} {x : Str} {px : Pos} {scope : Scope} {cl : List (Str × Addr)} {pos : Pos} {s₂ : Shared} {I ax : Addr} {vs : List Value} {news : List (Addr × Obj)} {J : Nat → List Value → List (Addr × Obj) → Prop} {RR : Value → Addr → Result → Shared → Prop}
    (hh : A.handled = none) (hIax : ax ≠ I) (hsz : vs.length ≤ 1000) (hkind : scope.kind = .function) (hcf : ∀ n, cellsFrom n scope.names cl = (x, n) :: cl) (hpc : ∀ h, pushCells h scope.names = h.push { cls := .type "cell", data := .cell none }) (hx : (relabel scope env).names.lookup x = some .cell)
    (hst : s₂.heap.IsListIter I ax 0 ∧ s₂.heap.IsList ax vs.toArray) (F : Fr h₀ L s₂.heap m) (N : News h₀ L s₂.heap news) (hIL : L ≠ I) (hI₀ : h₀.get? I = none) (off : ∀ p ∈ news, p.1 ≠ I) (hS : LCg.SrcAt h₀ ax vs.toArray news) (h0 : J 0 [] news)
    (turn : ∀ i ys news v oI C oC c oc D h tk (E' : Value → Shared → Prop), i < vs.length → vs[i]? = some v → J i ys news → oc.data = .cell (some v) → Fr h₀ L h m → News h₀ L h ((c, oc) :: (I, oI) :: (C, oC) :: (D, LCg.lst ys) :: news) → Off4 I C c D news → (@Ne Nat c I ∧ @Ne Nat c C ∧ @Ne Nat c D ∧ @Ne Nat I C ∧ @Ne Nat I D ∧ @Ne Nat C D) → LCg.SrcAt h₀ ax vs.toArray news → (∃ j t, oI.data = .fields #[.ref ax, .int j t]) → (∃ es ep, oC.data = .dict es ep) →
      wpAny (model prog w) A (eval elt (compEnvC scope ((x, c) :: cl) C env)) (CellTurn h₀ L m { s₂ with heap := h, toks := tk } ax vs.toArray I oI C oC c oc D (LCg.lst ys) (fun y news' => J (i + 1) (ys ++ [y]) news')) E' { s₂ with heap := h, toks := tk })
    (hRR : ∀ D C h tk m' ys news', Fr h₀ L h m → News h₀ L h ((D, LCg.lst ys) :: news') → (∀ p ∈ news', p.1 ≠ D) → h.Ns C m' → h₀.get? C = none → C ≠ L → C ≠ D → (∀ p ∈ news', p.1 ≠ C) → J vs.length ys news' → RR (.ref D) C (.ok .next) { s₂ with heap := h, toks := tk }) :
    wpAny (model prog w) A (newList []) (fun acc s₃ => wpAny (model prog w) A (newFunctionEnv scope env.globals cl [] env.qual none .none (some env)) (fun cenv s₄ =>
      codeAny (model prog w) A (.compStart (.ListComp elt [⟨.Name x px, iter, [], 0⟩] scope pos) 0 (.ref I) acc { cenv with scope := relabel scope env }) (RR acc cenv.locals) s₄) E s₃) E s₂ := by
  refine wpAny_newObj_type (newEnv_cells ?_)
  dsimp only
  rw [hcf, hpc]
  generalize hH2 : s₂.heap.push { cls := .type "list", dict := none, data := .seq ([] : List Value).toArray } = H2
  have hC : H2.objs.size = s₂.heap.objs.size + 1 := by rw [← hH2, Heap.size_push]
  generalize hD : s₂.heap.objs.size = D at *
  have hlt : ∀ b o, s₂.heap.get? b = some o → @LT.lt Nat _ b D := fun b o e => hD ▸ Heap.lt_size e
  have hI : @LT.lt Nat _ I D := by obtain ⟨o, e, _⟩ := hst.1; exact hlt _ _ e
  have hax : @LT.lt Nat _ ax D := by obtain ⟨o, e, _⟩ := hst.2; exact hlt _ _ e
  have hL : @LT.lt Nat _ L D := hD ▸ F.ns.lt
  have fresh₀ : ∀ a, @LE.le Nat _ D a → h₀.get? a = none := fun a ha => Heap.get?_none_of_le (Nat.le_trans F.above (Nat.le_trans (Nat.le_of_lt hL) ha))
  obtain ⟨C, hCq⟩ : ∃ C, C = H2.objs.size := ⟨_, rfl⟩
  rw [← hCq]
  have hCD : @Eq Nat C (D + 1) := hCq.trans hC
  have old2 : ∀ b o, s₂.heap.get? b = some o → H2.get? b = some o := fun b o e => hH2 ▸ Heap.get?_push_of_some _ e
  have oldC : ∀ b o, H2.get? b = some o → ((H2.push { cls := .type "dict", data := .dict #[] }).push { cls := .type "cell", data := .cell none }).get? b = some o := fun b o e => Heap.get?_push_of_some _ (Heap.get?_push_of_some _ e)
  generalize hH3 : (H2.push { cls := .type "dict", data := .dict #[] }).push { cls := .type "cell", data := .cell none } = H3 at oldC ⊢
  have gD : H3.get? D = some (LCg.lst []) := oldC _ _ (by rw [← hH2, ← hD]; exact Heap.get?_push_size _ rfl)
  have gC : H3.Ns C (fun _ => none) := by
    rw [← hH3]
    exact (hCq ▸ Heap.Ns.new H2 (.type "dict")).keeps fun b o e => Heap.get?_push_of_some _ e
  have gc : H3.get? (C + 1) = some { cls := .type "cell", data := .cell none } := by
    have e : (H2.push { cls := .type "dict", data := .dict #[] }).objs.size = C + 1 := by rw [Heap.size_push, hCq]
    rw [← hH3, ← e]
    exact Heap.get?_push_size _ rfl
  have old : ∀ b o, s₂.heap.get? b = some o → H3.get? b = some o := fun b o e => oldC _ _ (old2 _ _ e)
  have W := Walks.list (prog := prog) (w := w) (A := A) hh I ax hIax vs.toArray
  have hk' : (compEnvC scope ((x, C + 1) :: cl) C env).scope.kind = .function := hkind
  have loop : ∀ s₃ : Shared, s₃ = { s₂ with heap := H3 } → codeAny (model prog w) A (.compLoop (.ListComp elt [⟨.Name x px, iter, [], 0⟩] scope pos) 0 (.ref I) (.ref D) (compEnvC scope ((x, C + 1) :: cl) C env)) (RR (.ref D) C) s₃ := by
    rintro s₃ rfl
    refine codeAny_compLoop_tests
      (fun k s' => ∃ h' tk i ys oc v' m' news', s' = { s₂ with heap := h', toks := tk } ∧ i ≤ vs.length ∧ k = vs.length + 1 - i ∧ ys.length = i ∧ (h'.IsListIter I ax i ∧ h'.IsList ax vs.toArray) ∧ Fr h₀ L h' m ∧ h'.Ns C m' ∧ h'.get? (C + 1) = some oc ∧ oc.data = .cell v' ∧ News h₀ L h' ((D, LCg.lst ys) :: news') ∧
        Off4 I C (C + 1) D news' ∧ LCg.SrcAt h₀ ax vs.toArray news' ∧ J i ys news') ?_ (vs.length + 1)
      ⟨H3, s₂.toks, 0, [], _, _, _, news, rfl, Nat.zero_le _, rfl, rfl, ⟨by obtain ⟨o, e, r⟩ := hst.1; exact ⟨o, old _ _ e, r⟩, by obtain ⟨o, e, r⟩ := hst.2; exact ⟨o, old _ _ e, r⟩⟩, F.keeps old, gC, gc, rfl, fun p hp => ?_, fun p hp => ?_, hS, h0⟩
    · rintro k s' ⟨h', tk, i, ys, oc, v', m', news', rfl, hi, rfl, hyl, hst', F', hn', hc', hd', N', off', hS', hJ'⟩
      by_cases hlt : i < vs.length
      · refine W.item i _ _ _ (by simpa using hlt) hst' fun v h₂ tk₂ hPv hst₂ hk₂ => ?_
        have kk : ∀ b o, b ≠ I → h'.get? b = some o → h₂.get? b = some o := fun b o hb e => hk₂ b o (by simpa using hb) e
        have hCI : C ≠ I := Nat.ne_of_gt (by omega)
        have hcI : C + 1 ≠ I := Nat.ne_of_gt (by omega)
        have hDI : D ≠ I := Nat.ne_of_gt (by omega)
        refine wpAny_assign_Name (wpAny_storeName_cell hk' hx (c := C + 1) (by show List.lookup x ((x, C + 1) :: cl) = _; rw [List.lookup_cons_self]) ⟨oc, kk _ _ hcI hc', hd'⟩ fun h₃ hv₃ hs₃ => ?_)
        refine wpAny_tests_nil ?_
        simp only [if_true]
        obtain ⟨oc₃, hg₃, hd₃⟩ := hv₃
        have s3 : ∀ b o, b ≠ C + 1 → h₂.get? b = some o → h₃.get? b = some o := fun b o hb e => (hs₃.2 b hb).trans e
        have c0 : h₀.get? (C + 1) = none := fresh₀ _ (by omega)
        have F₃ : Fr h₀ L h₃ m := ⟨(F'.ns.at' fun o e => kk _ o hIL e).sameBut hs₃ (Nat.ne_of_lt (by omega)), fun b o e => s3 b o (fun q => by rw [q, c0] at e; cases e) (kk b o (fun q => by rw [q, hI₀] at e; cases e) (F'.keep b o e)), F'.above⟩
        obtain ⟨oI, heI, hrI⟩ := hst₂.1
        obtain ⟨oC, heC, hoC⟩ := LCg.ns_obj hn'
        have eI := s3 I oI (Ne.symm hcI) heI
        have eC := s3 C oC (Nat.ne_of_lt (Nat.lt_succ_self _)) (kk C oC hCI heC)
        have eD := s3 D _ (Nat.ne_of_lt (by omega)) (kk D _ hDI (N' _ (.head _)).1)
        have N₃ : News h₀ L h₃ ((C + 1, oc₃) :: (I, oI) :: (C, oC) :: (D, LCg.lst ys) :: news') := fun p hp => by
          rcases List.mem_cons.mp hp with rfl | hp
          · exact ⟨hg₃, Nat.ne_of_gt (by omega), c0⟩
          rcases List.mem_cons.mp hp with rfl | hp
          · exact ⟨eI, Ne.symm hIL, hI₀⟩
          rcases List.mem_cons.mp hp with rfl | hp
          · exact ⟨eC, Nat.ne_of_gt (by omega), fresh₀ _ (by omega)⟩
          rcases List.mem_cons.mp hp with rfl | hp
          · exact ⟨eD, Nat.ne_of_gt hL, fresh₀ _ (Nat.le_refl _)⟩
          · have z := N' p (.tail _ hp)
            exact ⟨s3 _ _ (off' p hp).2.2.1 (kk _ _ (off' p hp).1 z.1), z.2⟩
        refine wpAny_mono (turn i ys news' v oI C oC (C + 1) oc₃ D h₃ _ _ hlt (by simpa using hPv) hJ' hd₃ F₃ N₃ off' ⟨hcI, Nat.ne_of_gt (Nat.lt_succ_self _), by omega, Ne.symm hCI, Ne.symm hDI, by omega⟩ hS' ⟨_, _, hrI.2⟩ (let ⟨es, ep, e, _⟩ := hoC; ⟨es, ep, e⟩)) (fun y s₄ h₄ => ?_) fun _ _ e => e
        obtain ⟨h₄, tk₄, news₄, rfl, F₄, N₄, off₄, hS₄, hJ₄⟩ := h₄
        have zc := (N₄ _ (.head _)).1
        have zI := (N₄ _ (.tail _ (.head _))).1
        have zC := (N₄ _ (.tail _ (.tail _ (.head _)))).1
        have zD := (N₄ _ (.tail _ (.tail _ (.tail _ (.head _))))).1
        have N₄' : News h₀ L h₄ news₄ := fun p hp => N₄ p (.tail _ (.tail _ (.tail _ (.tail _ hp))))
        have hL₄ := hS₄.list F₄.keep N₄'
        dsimp only at zc zI zC zD
        refine append_at (hsz := by show ys.toArray.size ≤ sizeLine; rw [List.size_toArray, hyl, sizeLine_eq]; omega) zD fun h₅ hs₅ hD₅ => ?_
        have s5 : ∀ b o, b ≠ D → h₄.get? b = some o → h₅.get? b = some o := fun b o hb e => (hs₅.2 b hb).trans e
        have d0 : h₀.get? D = none := fresh₀ _ (Nat.le_refl _)
        refine ⟨vs.length + 1 - (i + 1), by omega, h₅, tk₄, i + 1, ys ++ [y], oc₃, _, _, news₄, rfl, hlt, rfl, by rw [List.length_append, List.length_singleton, hyl], ⟨⟨oI, s5 _ _ (Ne.symm hDI) zI, hrI⟩, ?_⟩, F₄.change hs₅ (Nat.ne_of_gt hL) d0, (hoC.ns zC).sameBut hs₅ (by omega : @Ne Nat C D), s5 _ _ (Nat.ne_of_gt (by omega)) zc, hd₃, fun p hp => ?_, off₄, hS₄, hJ₄⟩
        · obtain ⟨o, e, r⟩ := hL₄
          exact ⟨o, s5 _ _ (Nat.ne_of_lt hax) e, r⟩
        · rcases List.mem_cons.mp hp with rfl | hp
          · exact ⟨hD₅.trans (congrArg some (LCg.lst_snoc ys y)), Nat.ne_of_gt hL, d0⟩
          · exact ⟨s5 _ _ (off₄ p hp).2.2.2 (N₄' p hp).1, (N₄' p hp).2⟩
      · have hin : i = vs.length := by omega
        subst hin
        refine W.done _ _ _ (by simpa using hst') fun h₂ tk₂ hk₂ => ?_
        have kk : ∀ b o, b ≠ I → h'.get? b = some o → h₂.get? b = some o := fun b o hb e => hk₂ b o (by simpa using hb) e
        refine hRR D C h₂ tk₂ _ ys news' ⟨F'.ns.at' fun o e => kk _ o hIL e, fun b o e => kk b o (fun q => by rw [q, hI₀] at e; cases e) (F'.keep b o e), F'.above⟩ (fun p hp => ?_) (fun p hp => (off' p hp).2.2.2) (hn'.at' fun o e => kk _ o (Nat.ne_of_gt (by omega)) e) (fresh₀ _ (by omega)) (Nat.ne_of_gt (by omega)) (Nat.ne_of_gt (by omega)) (fun p hp => (off' p hp).2.1) hJ'
        rcases List.mem_cons.mp hp with rfl | hp
        · exact ⟨kk _ _ (Nat.ne_of_gt hI) (N' _ (.head _)).1, (N' _ (.head _)).2⟩
        · exact ⟨kk _ _ (off' p hp).1 (N' p (.tail _ hp)).1, (N' p (.tail _ hp)).2⟩
    · rcases List.mem_cons.mp hp with rfl | hp
      · exact ⟨gD, Nat.ne_of_gt hL, fresh₀ _ (Nat.le_refl _)⟩
      · exact ⟨old _ _ (N p hp).1, (N p hp).2⟩
    · have := hlt _ _ (N p hp).1
      exact ⟨off p hp, Nat.ne_of_lt (by omega), Nat.ne_of_lt (by omega), Nat.ne_of_lt this⟩
  exact codeAny_compStart_list (loop _ rfl) (W.self 0 _ _ _ ⟨by obtain ⟨o, e, r⟩ := hst.1; exact ⟨o, old _ _ e, r⟩, by obtain ⟨o, e, r⟩ := hst.2; exact ⟨o, old _ _ e, r⟩⟩ (loop _ rfl))
def CellSrc (prog : Program) (w : World) (A : Around) (h₀ : Heap) (L : Addr) (m : Str → Option Value) (env : Env) (elt : PySem.Expr) (x y : Str) (scope : Scope) (cl : List (Str × Addr)) (Q : Flow → Shared → Prop) (xv : Value) (s₁ : Shared) : Prop :=
  ∃ (ax : Addr) (vs : List Value) (news : List (Addr × Obj)) (J : Nat → List Value → List (Addr × Obj) → Prop), xv = .ref ax ∧ A.handled = none ∧ Fr h₀ L s₁.heap m ∧ News h₀ L s₁.heap news ∧ LCg.SrcAt h₀ ax vs.toArray news ∧ vs.length ≤ 1000 ∧ J 0 [] news ∧
    (∀ i ys news v I oI C oC c oc D h tk (E' : Value → Shared → Prop), i < vs.length → vs[i]? = some v → J i ys news → oc.data = .cell (some v) → Fr h₀ L h m → News h₀ L h ((c, oc) :: (I, oI) :: (C, oC) :: (D, LCg.lst ys) :: news) → Off4 I C c D news → (@Ne Nat c I ∧ @Ne Nat c C ∧ @Ne Nat c D ∧ @Ne Nat I C ∧ @Ne Nat I D ∧ @Ne Nat C D) → LCg.SrcAt h₀ ax vs.toArray news → (∃ j t, oI.data = .fields #[.ref ax, .int j t]) → (∃ es ep, oC.data = .dict es ep) →
      wpAny (model prog w) A (eval elt (compEnvC scope ((x, c) :: cl) C env)) (CellTurn h₀ L m { s₁ with heap := h, toks := tk } ax vs.toArray I oI C oC c oc D (LCg.lst ys) (fun y news' => J (i + 1) (ys ++ [y]) news')) E' { s₁ with heap := h, toks := tk }) ∧
    (∀ D h tk ys news', Fr h₀ L h (fun z => if z = y then some (.ref D) else m z) → News h₀ L h ((D, LCg.lst ys) :: news') → J vs.length ys news' → Q .next { s₁ with heap := h, toks := tk })
theorem Assign_comp_cell {elt iter : PySem.Expr} {x y : Str} {px py : Pos} {scope : Scope} {cl : List (Str × Addr)} {pos spos : Pos} {Q : Flow → Shared → Prop} (F₀ : Fr h₀ L s.heap m) (hLe : env.locals = L)
    (hsw : swapsWith (.ListComp elt [⟨.Name x px, iter, [], 0⟩] scope pos) (some (.Name y py)) spos.line env = pure true)
    (hclos : closureFor scope env = pure cl) (hkind : scope.kind = .function)
    (hnames : ∀ z ∈ scope.names, z.2 = .local → scope.names.lookup z.1 = some .local) (hcf : ∀ n, cellsFrom n scope.names cl = (x, n) :: cl) (hpc : ∀ h, pushCells h scope.names = h.push { cls := .type "cell", data := .cell none }) (hx : (relabel scope env).names.lookup x = some .cell)
    (hy : env.kindOf y = some .local) (hp : (env.scope.kind == .class || (env.scope.kind == .module && env.locals != env.globals)) = false)
    (h : wpAny (model prog w) A (eval iter env) (CellSrc prog w A h₀ L m env elt x y scope cl Q) E s)
    (hs : ∀ x, foldedSetIterable iter env x = pure x := by intro _; rfl) :
    wpAny (model prog w) A (exec (.Assign [.Name y py] (.ListComp elt [⟨.Name x px, iter, [], 0⟩] scope pos) spos) env) Q E s := by
  subst hLe
  rw [exec_Assign_Name_used _ _ _ _ hsw]
  refine wpAny_bind (wpAny_standAt (wpAny_bind ?_))
  show wpAny _ A (do let _ ← comprehension (.ListComp elt [⟨.Name x px, iter, [], 0⟩] scope pos) scope env _ (newList []) false (eval iter env) (some (assign (.Name y py) env))) _ _ s
  refine wpAny_bind (wpAny_mono (wpAny_comprehension_free (use := some (assign (.Name y py) env)) (Q := fun _ s' => Q .next s') rfl hs hclos hkind hnames
    (wpAny_mono h (fun xv s₁ h₁ => ?_) fun _ _ e => e)) (fun _ s' hq => wpAny_pure (wpAny_pure hq)) fun _ _ e => e)
  obtain ⟨ax, vs, news, J, rfl, hh, F, N, S, hsz, h0, turn, done⟩ := h₁
  have hl := S.list F.keep N
  have hlt : ax < s₁.heap.objs.size := by obtain ⟨_, e, _⟩ := hl; exact Heap.lt_size e
  refine wpAny_pyIter_list hl ?_
  have up : ∀ b o, s₁.heap.get? b = some o → (s₁.heap.push { cls := .type "list_iterator", data := .fields #[.ref ax, .int 0 0] }).get? b = some o := fun b o e => Heap.get?_push_of_some _ e
  refine block_C (I := s₁.heap.objs.size) (ax := ax) (vs := vs) (J := J) hh (Nat.ne_of_lt hlt) hsz hkind hcf hpc hx ⟨⟨_, Heap.get?_push_size _ rfl, rfl, rfl⟩, hl.push _⟩ (F.keeps up) (N.grown up) (Nat.ne_of_lt F.ns.lt) (next_is_new F) (fun p hp => Nat.ne_of_lt (Heap.lt_size (N p hp).1)) S h0
    (fun i ys news v oI C oC c oc D h tk E' a1 a2 a3 a4 a5 a6 a7 a8 a9 b1 b2 => turn i ys news v _ oI C oC c oc D h tk E' a1 a2 a3 a4 a5 a6 a7 a8 a9 b1 b2) ?_
  intro D C h' tk m' ys news' F' N' o1 hn hC₀ hCL hCD offC fin
  show wpAny _ A (assign (.Name y py) env (.ref D)) _ _ _
  refine wpAny_assign_Name (wpAny_storeName_local hy F'.ns (fun h₂ hn₂ hs₂ => ?_) hp)
  have hL₀ : h₀.get? env.locals = none := Heap.get?_none_of_le F'.above
  have F₂ : Fr h₀ env.locals h₂ (fun z => if z = y then some (.ref D) else m z) := ⟨hn₂, fun b o e => hs₂.extBut b o (fun q => by rw [q, hL₀] at e; cases e) (F'.keep b o e), F'.above⟩
  refine ⟨m', hn.sameBut hs₂ hCL, fun h'' hs'' => done D h'' _ ys news' (F₂.change hs'' hCL hC₀) (fun p hp => ?_) fin⟩
  have z : h₂.get? p.1 = some p.2 := hs₂.extBut _ _ (N' p hp).2.1 (N' p hp).1
  refine ⟨hs''.extBut _ _ ?_ z, (N' p hp).2⟩
  rcases List.mem_cons.mp hp with rfl | hp
  · exact Ne.symm hCD
  · exact offC p hp
end
/-- the comprehension over the draws, between two turns -/
def GoodJ (kn tl : List (Addr × Obj)) (h₀ : Heap) (L : Addr) (i : Nat) (ys : List Value) (news : List (Addr × Obj)) : Prop :=
  ys = List.replicate i (.bool true) ∧ ∃ oT cc, news = kn ++ ((155, oT) :: (tl ++ cc)) ∧ ∀ h' m', Fr h₀ L h' m' → News h₀ L h' cc → TabOk h' oT
theorem pickG {h₀ h : Heap} {L : Addr} {p0 p1 p2 p3 p4 p5 p6 p7 p8 p9 : Addr × Obj} {tr mo : List (Addr × Obj)} (N : News h₀ L h (p0 :: p1 :: p2 :: p3 :: p4 :: p5 :: p6 :: p7 :: p8 :: p9 :: (tr ++ mo))) : News h₀ L h ([p0, p2, p3, p4, p5, p6, p7] ++ (p8 :: ((p9 :: (tr ++ mo)) ++ []))) := fun p hp => N p (by
  simp only [List.mem_cons, List.mem_append, List.not_mem_nil, or_false, List.cons_append, List.nil_append, List.append_nil] at hp ⊢
  rcases hp with h | h | h | h | h | h | h | h | h | h | h <;> simp [h])
theorem item_kind {prog : Program} {w : World} {A : Around} {E : Value → Shared → Prop} {s : Shared} {value slice : PySem.Expr} {l : Addr} {vs : List Value} {ns : List Int} {k : Int} {u : Tok} {Q : Value → Shared → Prop} (hl : s.heap.IsList l vs.toArray) (hi : IntsAre vs ns) (h0 : 0 ≤ k) (h1 : k < ns.length) (h2 : ns.length < 100) (h : ∀ n t, n ∈ ns → Q (.int n t) s)
    (hs : subscripted slice false (.ref l) (.int k u) = operate [.ref l, .int k u] (getItem (.ref l) (.int k u)) := by with_unfolding_all rfl) : wpAny (model prog w) A (subscriptTail value slice (.ref l) (.int k u)) Q E s := by
  obtain ⟨v, hv⟩ : ∃ v, vs[k.toNat]? = some v := ⟨_, List.getElem?_eq_getElem (by rw [hi.length]; omega)⟩
  obtain ⟨n, t, rfl, hn⟩ := IntsAre.at hi _ v hv
  exact tail_any hl.typeIs slot_list_getitem.lookup (wpAny_getItem_list hl h0 (by omega) (by simpa using hv) (h n t (List.mem_of_getElem? hn))) hs
theorem fmod8 (n : Int) : 0 ≤ n.fmod 8 ∧ n.fmod 8 < 8 := by
  rw [Int.fmod_eq_emod_of_nonneg _ (by decide)]
  omega
def CodeLike (o : Obj) : Prop := ∃ vs q t, o.data = .fields vs ∧ vs[1]? = some (.str q t)
theorem tabCarry2 {g h : Heap} {L : Addr} {m : Str → Option Value} {oT : Obj} (x : TabOk h oT) (F : Fr g L h m) : ∃ cc, News g L h cc ∧ (∀ p ∈ cc, CodeLike p.2) ∧ ∀ h' m', Fr g L h' m' → News g L h' cc → TabOk h' oT := by
  rcases x with rfl | ⟨c, rfl, c', oc, vs, t, e, hg, hd, hv⟩
  · exact ⟨[], News.nil, fun _ h => (nomatch h), fun _ _ _ _ => .inl rfl⟩
  · cases e
    cases q : g.get? c with
    | some o =>
      have := F.keep _ _ q
      rw [hg] at this
      cases this
      exact ⟨[], News.nil, fun _ h => (nomatch h), fun h' m' F' _ => .inr ⟨c, rfl, c, oc, vs, t, rfl, F'.keep _ _ q, hd, hv⟩⟩
    | none =>
      refine ⟨[(c, oc)], fun p hp => ?_, fun p hp => by rw [List.mem_singleton.mp hp]; exact ⟨vs, _, t, hd, hv⟩, fun h' m' _ N' => .inr ⟨c, rfl, c, oc, vs, t, rfl, (N' _ (.head _)).1, hd, hv⟩⟩
      rw [List.mem_singleton.mp hp]
      refine ⟨hg, fun e => ?_, q⟩
      obtain ⟨oL, es, ep, hL, hdL, _⟩ := F.ns
      have e' : c = L := e
      rw [e', hL] at hg
      cases hg
      rw [hd] at hdL
      cases hdL
section
variable {prog : Program} {w : World} {A : Around} {s₁ : Shared} {h₀ : Heap} {L : Addr} {m : Str → Option Value} {env : Env}
theorem cellSrc_intro {elt : PySem.Expr} {x y : Str} {scope : Scope} {cl : List (Str × Addr)} {Q : Flow → Shared → Prop} {ld : Addr} {vs : List Value} {k : Nat} {kn tl : List (Addr × Obj)} (hh : A.handled = none) (F : Fr h₀ L s₁.heap m) (N : News h₀ L s₁.heap (kn ++ ((155, tabObj #[]) :: (tl ++ [])))) (hm : (ld, W.listOf (List.toArray vs) k) ∈ kn) (hsz : vs.length ≤ 1000)
    (turn : ∀ i oT cc v I oI C oC c oc D h tk (E' : Value → Shared → Prop), i < vs.length → vs[i]? = some v → (∀ h' m', Fr h₀ L h' m' → News h₀ L h' cc → TabOk h' oT) → oc.data = .cell (some v) → Fr h₀ L h m → News h₀ L h ((c, oc) :: (I, oI) :: (C, oC) :: (D, LCg.lst (List.replicate i (.bool true))) :: (kn ++ ((155, oT) :: (tl ++ cc)))) → (c ≠ 155 ∧ I ≠ 155 ∧ C ≠ 155 ∧ D ≠ 155) →
      wpAny (model prog w) A (eval elt (compEnvC scope ((x, c) :: cl) C env)) (fun y s₂ => ∃ h' tk' oT', y = .bool true ∧ s₂ = { s₁ with heap := h', toks := tk' } ∧ Fr h₀ L h' m ∧ News h₀ L h' ((c, oc) :: (I, oI) :: (C, oC) :: (D, LCg.lst (List.replicate i (.bool true))) :: (kn ++ ((155, oT') :: tl))) ∧ TabOk h' oT') E' { s₁ with heap := h, toks := tk })
    (done : ∀ D h tk oT news', Fr h₀ L h (fun z => if z = y then some (.ref D) else m z) → News h₀ L h ((D, LCg.lst (List.replicate vs.length (.bool true))) :: news') → (155, oT) ∈ news' → TabOk h oT → Q .next { s₁ with heap := h, toks := tk }) :
    CellSrc prog w A h₀ L m env elt x y scope cl Q (.ref ld) s₁ := by
  refine ⟨ld, vs, _, GoodJ kn tl h₀ L, rfl, hh, F, N, .inr ⟨_, List.mem_append_left _ hm, rfl, _, rfl⟩, hsz, ⟨rfl, _, [], rfl, fun _ _ _ _ => .inl rfl⟩, ?_, ?_⟩
  · rintro i ys news v I oI C oC c oc D h tk E' hi hv ⟨rfl, oT, cc, rfl, hcc⟩ hoc F N off ne _ ⟨j, tj, hdI⟩ ⟨es, ep, hdC⟩
    have o155 := off (155, oT) (List.mem_append_right _ (.head _))
    refine wpAny_mono (turn i oT cc v I oI C oC c oc D h tk E' hi hv hcc hoc F N ⟨o155.2.2.1.symm, o155.1.symm, o155.2.1.symm, o155.2.2.2.symm⟩) (fun y s₂ h₂ => ?_) fun _ _ e => e
    obtain ⟨h', tk', oT', rfl, rfl, F', N', hT'⟩ := h₂
    obtain ⟨cc', hccN, hccC, hccT⟩ := tabCarry2 hT' F'
    have N2 : News h₀ L h' ((c, oc) :: (I, oI) :: (C, oC) :: (D, LCg.lst (List.replicate i (.bool true))) :: (kn ++ ((155, oT') :: (tl ++ cc')))) := fun p hp => by
      simp only [List.mem_cons, List.mem_append] at hp
      rcases hp with h | h | h | h | h | h | h | h
      · exact N' p (by simp [h])
      · exact N' p (by simp [h])
      · exact N' p (by simp [h])
      · exact N' p (by simp [h])
      · exact N' p (by simp [h])
      · exact N' p (by simp [h])
      · exact N' p (by simp [h])
      · exact hccN p h
    refine ⟨h', tk', _, rfl, F', N2, fun p hp => ?_, .inr ⟨_, List.mem_append_left _ hm, rfl, _, rfl⟩, ?_, oT', cc', rfl, hccT⟩
    · have hp2 := hp
      simp only [List.mem_cons, List.mem_append] at hp2
      rcases hp2 with hk | hk | hk | hk
      · exact off p (List.mem_append_left _ hk)
      · have := off (155, oT) (List.mem_append_right _ (.head _))
        rw [hk]; exact this
      · exact off p (List.mem_append_right _ (.tail _ (List.mem_append_left _ hk)))
      · obtain ⟨vs', q, t, hd, hv1⟩ := hccC p hk
        have hpm := (hccN p hk).1
        refine ⟨news_ne hpm (N2 _ (.tail _ (.head _))).1 fun e => ?_, news_ne hpm (N2 _ (.tail _ (.tail _ (.head _)))).1 fun e => ?_, news_ne hpm (N2 _ (.head _)).1 fun e => ?_, news_ne hpm (N2 _ (.tail _ (.tail _ (.tail _ (.head _))))).1 fun e => ?_⟩
        · dsimp only at e
          rw [e, hdI] at hd
          cases hd
          cases hv1
        · dsimp only at e
          rw [e, hdC] at hd
          cases hd
        · dsimp only at e
          rw [e, hoc] at hd
          cases hd
        · dsimp only at e
          rw [e] at hd
          cases hd
    · rw [List.replicate_succ']
  · rintro D h tk ys news' F N ⟨rfl, oT, cc, rfl, hcc⟩
    exact done D h tk oT _ F N (List.mem_append_right _ (.head _)) (hcc h _ F fun p hp => N p (.tail _ (List.mem_append_right _ (.tail _ (List.mem_append_right _ hp)))))
end
/-- the figures of one draw, between two turns -/
def FigJ (nw : List (Addr × Obj)) (i : Nat) (ys : List Value) (news : List (Addr × Obj)) : Prop := news = nw ∧ ∃ figs, IntsAre ys figs ∧ figs.length = i ∧ Figs figs
theorem figJ_snoc {nw : List (Addr × Obj)} {i : Nat} {ys : List Value} {figs : List Int} {n : Int} {t : Tok} (h : IntsAre ys figs) (hl : figs.length = i) (hF : Figs figs) (hn : 0 ≤ n ∧ n < 64) : FigJ nw (i + 1) (ys ++ [.int n t]) nw :=
  ⟨rfl, figs ++ [n], h.append (.cons n t .nil), by rw [List.length_append, hl]; rfl, fun f hf => by
    rcases List.mem_append.mp hf with hf | hf
    · exact hF f hf
    · rw [List.mem_singleton.mp hf]; exact hn⟩
def kindsL : List Int := [62, 63, 0, 1, 62, 63, 20, 46]
theorem kinds_in : ∀ n ∈ kindsL, 0 ≤ n ∧ n < 64 := by decide
theorem pow8 {i : Nat} (h : i < 8) : (8 : Int) ^ (0 + (i : Int)).toNat ≠ 0 ∧ ((8 : Int) ^ (0 + (i : Int)).toNat).natAbs.log2 < 9000 := by
  have key : ∀ n : Fin 8, (8 : Int) ^ (0 + (n.val : Int)).toNat ≠ 0 ∧ ((8 : Int) ^ (0 + (n.val : Int)).toNat).natAbs.log2 < 9000 := by decide +kernel
  exact key ⟨i, h⟩
theorem anew_P2 : True := by
  w_top off
  k_with_none
  trivial
set_option maxHeartbeats 1000000
theorem ways_len (figs : List Int) : ∀ mss : List (List Int), (waysF figs mss).length ≤ mss.length
  | [] => Nat.le_refl _
  | ms :: r => by
    unfold waysF
    split
    · simpa using ways_len figs r
    · simp
theorem led_ok {figs ms : List Int} (hm : MapOk ms) : Figs (ledF figs ms) ∧ (ledF figs ms).length ≤ figs.length := by
  have key : ∀ (l acc : List Int), Figs acc → Figs (l.foldl (ledG ms) acc) ∧ (l.foldl (ledG ms) acc).length ≤ acc.length + l.length := by
    intro l
    induction l with
    | nil => exact fun acc h => ⟨h, Nat.le_refl _⟩
    | cons f l ih =>
      intro acc h
      rw [List.foldl_cons]
      have hg : Figs (ledG ms acc f) ∧ (ledG ms acc f).length ≤ acc.length + 1 := by
        unfold ledG
        split
        · rename_i h0
          refine ⟨fun x hx => ?_, by simp⟩
          rcases List.mem_append.mp hx with hx | hx
          · exact h x hx
          · rw [List.mem_singleton.mp hx]
            exact ⟨h0, (getD_ok hm _).2⟩
        · exact ⟨h, by omega⟩
      obtain ⟨h1, h2⟩ := ih _ hg.1
      exact ⟨h1, by simp; omega⟩
  obtain ⟨h1, h2⟩ := key figs [] (fun _ h => nomatch h)
  rw [List.length_nil, Nat.zero_add] at h2
  exact ⟨h1, h2⟩
theorem ways_ok {figs : List Int} (hl : figs.length = 8) : ∀ {mss : List (List Int)}, (∀ ms ∈ mss, MapOk ms) → ∀ ws ∈ waysF figs mss, Figs ws ∧ ws.length ≤ 8 ∧ ws.length % 4 = 0
  | [], _, _, h => nomatch h
  | ms :: r, hm, ws, h => by
    unfold waysF at h
    split at h
    · rename_i h4
      rcases List.mem_cons.mp h with rfl | h
      · have := led_ok (figs := figs) (hm ms (.head _))
        exact ⟨this.1, by omega, h4⟩
      · exact ways_ok hl (fun m hm' => hm m (.tail _ hm')) ws h
    · cases h
abbrev Wn (figs : List Int) (n0 : Int) (nr : List Int) : List (List Int) := waysF figs (mssS n0 nr).1
theorem anew_P3 : True := by
  w_top off
  k_with_none
  trivial
set_option maxHeartbeats 1000000
/-- a list less the first cnt of each kind -/
def restL (cnt : Int → Nat) : List Int → List Int
  | [] => []
  | y :: r => if 0 < cnt y then restL (fun z => if z = y then cnt z - 1 else cnt z) r else y :: restL cnt r
theorem restL_zero : ∀ (l : List Int), restL (fun _ => 0) l = l
  | [] => rfl
  | y :: r => by
    unfold restL
    rw [if_neg (Nat.lt_irrefl 0), restL_zero r]
theorem restL_mem : ∀ (l : List Int) (cnt : Int → Nat) (x : Int), x ∈ restL cnt l ↔ cnt x < l.count x
  | [], cnt, x => by simp [restL]
  | y :: r, cnt, x => by
    unfold restL
    by_cases h : 0 < cnt y
    · rw [if_pos h, restL_mem r]
      by_cases e : x = y
      · subst e
        simp only [if_true, List.count_cons_self]
        omega
      · rw [if_neg e, List.count_cons_of_ne (Ne.symm e)]
    · rw [if_neg h, List.mem_cons, restL_mem r]
      by_cases e : x = y
      · subst e
        simp only [true_or, List.count_cons_self, true_iff]
        omega
      · rw [List.count_cons_of_ne (Ne.symm e)]
        simp [e]
theorem restL_erase : ∀ (l : List Int) (cnt : Int → Nat) (x : Int), (restL cnt l).erase x = if x ∈ restL cnt l then restL (fun z => if z = x then cnt z + 1 else cnt z) l else restL cnt l
  | [], cnt, x => by simp [restL]
  | y :: r, cnt, x => by
    have ih := restL_erase r
    by_cases hm : x ∈ restL cnt (y :: r)
    · rw [if_pos hm]
      by_cases h : 0 < cnt y
      · have e1 : restL cnt (y :: r) = restL (fun z => if z = y then cnt z - 1 else cnt z) r := by rw [restL, if_pos h]
        rw [e1] at hm ⊢
        rw [ih, if_pos hm]
        have h2 : 0 < (if y = x then cnt y + 1 else cnt y) := by split <;> omega
        rw [restL, if_pos h2]
        congr 1
        funext z
        by_cases a : z = x <;> by_cases b : z = y
        · subst a; subst b; simp only [if_true]; omega
        · simp [a, b]
          rw [if_neg (by rw [← a]; exact b), if_neg (by rw [← a]; exact b)]
        · subst b; simp [a]
        · simp [a, b]
      · have e1 : restL cnt (y :: r) = y :: restL cnt r := by rw [restL, if_neg h]
        rw [e1] at hm ⊢
        by_cases e : x = y
        · subst e
          rw [List.erase_cons_head, restL, if_pos (by rw [if_pos rfl]; omega)]
          congr 1
          funext z
          by_cases a : z = x
          · subst a; simp
          · simp [a]
        · rw [List.erase_cons_tail (by simpa using Ne.symm e), ih]
          have hm2 : x ∈ restL cnt r := (List.mem_cons.mp hm).resolve_left e
          rw [if_pos hm2, restL, if_neg (by rw [if_neg (Ne.symm e)]; exact h)]
    · rw [if_neg hm, List.erase_of_not_mem hm]
theorem restL_over : ∀ (l : List Int) (cnt : Int → Nat) (x : Int), l.count x ≤ cnt x → restL (fun z => if z = x then cnt z + 1 else cnt z) l = restL cnt l
  | [], _, _, _ => rfl
  | y :: r, cnt, x, h => by
    by_cases e : y = x
    · subst e
      rw [List.count_cons_self] at h
      have h0 : 0 < cnt y := by omega
      rw [restL, if_pos (by rw [if_pos rfl]; omega), restL, if_pos h0]
      have := restL_over r (fun z => if z = y then cnt z - 1 else cnt z) y (by rw [if_pos rfl]; omega)
      rw [← this]
      congr 1
      funext z
      by_cases a : z = y
      · subst a; simp only [if_true]; omega
      · simp [a]
    · rw [List.count_cons_of_ne e] at h
      by_cases h0 : 0 < cnt y
      · rw [restL, if_pos (by rw [if_neg e]; exact h0), restL, if_pos h0]
        have := restL_over r (fun z => if z = y then cnt z - 1 else cnt z) x (by rw [if_neg (Ne.symm e)]; exact h)
        rw [← this]
        congr 1
        funext z
        by_cases a : z = x <;> by_cases b : z = y
        · exact absurd (b.symm.trans a) e
        · simp [a]
          rw [if_neg (fun hh => e hh.symm), if_neg (fun hh => e hh.symm)]
        · subst b; simp [a]
        · simp [a, b]
      · rw [restL, if_neg (by rw [if_neg e]; exact h0), restL, if_neg h0, restL_over r cnt x h]
def missG (ms : List Int) : List Int → List Int
  | [] => []
  | x :: ns => missG ms ns ++ (if ms.count x < (x :: ns).count x then [x] else [])
theorem uRes_eq (ms : List Int) : ∀ (ns : List Int), uRes ns ms = (missG ms ns, restL (fun y => ns.count y) ms)
  | [] => by
    show ([], ms) = _
    simp only [List.count_nil, restL_zero, missG]
  | x :: ns => by
    have ih := uRes_eq ms ns
    have e : uRes (x :: ns) ms = uStep (uRes ns ms) x := by
      unfold uRes
      rw [List.reverse_cons, List.foldl_append]; rfl
    have ec : (fun y => (x :: ns).count y) = (fun z => if z = x then ns.count z + 1 else ns.count z) := by
      funext z
      by_cases a : z = x
      · subst a; rw [List.count_cons_self, if_pos rfl]
      · rw [List.count_cons_of_ne (Ne.symm a), if_neg a]
    rw [e, ih, ec]
    show uStep (missG ms ns, restL (fun y => ns.count y) ms) x = (missG ms ns ++ (if ms.count x < (x :: ns).count x then [x] else []), _)
    unfold uStep
    dsimp only
    rw [List.count_cons_self]
    by_cases hm : x ∈ restL (fun y => ns.count y) ms
    · have h1 := (restL_mem ms _ x).mp hm
      rw [if_pos hm, if_neg (by omega), List.append_nil, restL_erase, if_pos hm]
    · have h1 : ¬ _ := fun q => hm ((restL_mem ms _ x).mpr q)
      rw [if_neg hm, if_pos (by omega), restL_over ms _ x (by omega)]
theorem restL_snoc : ∀ (l : List Int) (cnt : Int → Nat) (y : Int), restL cnt (l ++ [y]) = restL cnt l ++ (if cnt y < (l ++ [y]).count y then [y] else [])
  | [], cnt, y => by
    simp only [List.nil_append, restL, List.count_singleton_self]
    by_cases h : 0 < cnt y
    · rw [if_pos h, if_neg (by omega)]
    · rw [if_neg h, if_pos (by omega)]
  | x :: l, cnt, y => by
    rw [List.cons_append]
    by_cases h : 0 < cnt x
    · rw [restL, if_pos h, restL_snoc l, restL, if_pos h]
      congr 1
      by_cases e : x = y
      · subst e
        rw [List.count_cons_self, if_pos rfl]
        have : (cnt x - 1 < List.count x (l ++ [x])) ↔ (cnt x < List.count x (l ++ [x]) + 1) := by omega
        simp only [this]
      · rw [List.count_cons_of_ne e, if_neg (Ne.symm e)]
    · rw [restL, if_neg h, restL_snoc l, restL, if_neg h, List.cons_append]
      congr 2
      by_cases e : x = y
      · subst e
        rw [List.count_cons_self, List.count_append, List.count_singleton_self]
        have h1 : cnt x < List.count x l + 1 := by omega
        have h2 : cnt x < List.count x l + 1 + 1 := by omega
        rw [if_pos h1, if_pos h2]
      · rw [List.count_cons_of_ne e]
theorem chr_inj {a b : Int} (ha : 0 ≤ a ∧ a < 64) (hb : 0 ≤ b ∧ b < 64) (h : chrOf a = chrOf b) : a = b := by
  have key : ∀ m n : Fin 64, chrOf (m.val : Int) = chrOf (n.val : Int) → m = n := by decide +kernel
  have e1 : a = ((a.toNat : Nat) : Int) := by omega
  have e2 : b = ((b.toNat : Nat) : Int) := by omega
  rw [e1, e2] at h
  have := key ⟨a.toNat, by omega⟩ ⟨b.toNat, by omega⟩ h
  have := congrArg Fin.val this
  dsimp only at this
  omega
theorem count_chr {x : Int} (hx : 0 ≤ x ∧ x < 64) : ∀ {l : List Int}, Figs l → (l.map chrOf).count (chrOf x) = l.count x
  | [], _ => rfl
  | y :: l, h => by
    have ih := count_chr hx (l := l) fun f hf => h f (.tail _ hf)
    rw [List.map_cons]
    by_cases e : y = x
    · subst e; rw [List.count_cons_self, List.count_cons_self, ih]
    · rw [List.count_cons_of_ne e, List.count_cons_of_ne (fun q => e (chr_inj (h y (.head _)) hx q)), ih]
theorem Figs.drop {l : List Int} (h : Figs l) (i : Nat) : Figs (l.drop i) := fun f hf => h f (List.mem_of_mem_drop hf)
theorem Figs.take {l : List Int} (h : Figs l) (i : Nat) : Figs (l.take i) := fun f hf => h f (List.mem_of_mem_take hf)
theorem missF_eq {figs led : List Int} (hf : Figs figs) (hd : Figs led) : ∀ i, i ≤ figs.length → missF figs led i = missG (led.map chrOf) ((figs.drop (figs.length - i)).map chrOf)
  | 0, _ => by
    rw [Nat.sub_zero, List.drop_length]; rfl
  | i + 1, h => by
    have ih := missF_eq hf hd i (by omega)
    rw [missF, ih]
    have hlt : figs.length - (i + 1) < figs.length := by omega
    have e : figs.drop (figs.length - (i + 1)) = figs[figs.length - (i + 1)] :: figs.drop (figs.length - i) := by
      rw [List.drop_eq_getElem_cons hlt]
      congr 2
      omega
    rw [e, List.map_cons, missG]
    congr 1
    have e3 : figs.length - 1 - i = figs.length - (i + 1) := by omega
    have eg : figs.getD (figs.length - (i + 1)) 0 = figs[figs.length - (i + 1)] := by
      rw [List.getD_eq_getElem?_getD, List.getElem?_eq_getElem hlt]; rfl
    have hx := hf _ (List.getElem_mem hlt)
    unfold missAt
    rw [e3, eg, e, ← List.map_cons (f := chrOf), count_chr hx hd, count_chr hx (l := _ :: _) (by rw [← e]; exact hf.drop _)]
theorem unexF_eq {figs led : List Int} (hf : Figs figs) (hd : Figs led) : ∀ i, i ≤ led.length → unexF figs led i = restL (fun y => (figs.map chrOf).count y) ((led.take i).map chrOf)
  | 0, _ => rfl
  | i + 1, h => by
    have ih := unexF_eq hf hd i (by omega)
    have hlt : i < led.length := by omega
    have e : led.take (i + 1) = led.take i ++ [led[i]] := by
      rw [List.take_add_one, List.getElem?_eq_getElem hlt]; rfl
    have eg : led.getD i 0 = led[i] := by
      rw [List.getD_eq_getElem?_getD, List.getElem?_eq_getElem hlt]; rfl
    have hx := hd _ (List.getElem_mem hlt)
    rw [unexF, ih, e, List.map_append, List.map_cons, List.map_nil, restL_snoc]
    congr 1
    unfold unexAt
    have e5 : (List.map chrOf (led.take i) ++ [chrOf led[i]]) = (led.take (i + 1)).map chrOf := by rw [e, List.map_append]; rfl
    rw [eg, e5, count_chr hx hf, count_chr hx (hd.take _)]
theorem bags_plain {figs led : List Int} (hf : Figs figs) (hd : Figs led) : uRes (figs.map chrOf) (led.map chrOf) = (missF figs led figs.length, unexF figs led led.length) := by
  rw [uRes_eq, missF_eq hf hd _ (Nat.le_refl _), unexF_eq hf hd _ (Nat.le_refl _), Nat.sub_self, List.drop_zero, List.take_length]
theorem anew_P4 : True := by
  w_top off
  k_with_none
  trivial
set_option maxHeartbeats 1000000
theorem enc3 {lc a b c d : Int} {out : List Int} (hlc : 0 ≤ lc ∧ lc ≤ 65535) (ha : 0 ≤ a ∧ a < 64) (hb : 0 ≤ b ∧ b < 64) (hc : 0 ≤ c ∧ c < 64) (hd : 0 ≤ d ∧ d < 64) :
    ∃ lc', 0 ≤ lc' ∧ lc' ≤ 65535 ∧ [a * 4 + b.fdiv 16, b.fmod 16 * 16 + c.fdiv 4, c.fmod 4 * 64 + d].foldl encStep (0, lc, out) = (0, lc', out ++ [chrOf a, chrOf b, chrOf c, chrOf d]) := by
  rw [Int.fdiv_eq_ediv_of_nonneg _ (by decide), Int.fdiv_eq_ediv_of_nonneg _ (by decide), Int.fmod_eq_emod_of_nonneg _ (by decide), Int.fmod_eq_emod_of_nonneg _ (by decide)]
  simp only [List.foldl_cons, List.foldl_nil]
  have e1 : encStep (0, lc, out) (a * 4 + b / 16) = (2, (lc * 256 + (a * 4 + b / 16)) % 65536, out ++ [chrOf a]) := by
    unfold encStep
    rw [if_pos rfl]
    dsimp only
    rw [show (lc * 256 + (a * 4 + b / 16)) % 65536 / 4 % 64 = a by omega]
  have e2 : encStep (2, (lc * 256 + (a * 4 + b / 16)) % 65536, out ++ [chrOf a]) (b % 16 * 16 + c / 4) = (4, ((lc * 256 + (a * 4 + b / 16)) % 65536 * 256 + (b % 16 * 16 + c / 4)) % 65536, out ++ [chrOf a] ++ [chrOf b]) := by
    unfold encStep
    rw [if_neg (show ¬ (2 : Int) = 0 by decide), if_pos rfl]
    dsimp only
    rw [show ((lc * 256 + (a * 4 + b / 16)) % 65536 * 256 + (b % 16 * 16 + c / 4)) % 65536 / 16 % 64 = b by omega]
  rw [e1, e2]
  generalize hx : ((lc * 256 + (a * 4 + b / 16)) % 65536 * 256 + (b % 16 * 16 + c / 4)) % 65536 = x
  refine ⟨(x * 256 + (c % 4 * 64 + d)) % 65536, by omega, by omega, ?_⟩
  unfold encStep
  rw [if_neg (show ¬ (4 : Int) = 0 by decide), if_neg (show ¬ (4 : Int) = 2 by decide)]
  dsimp only
  rw [show (x * 256 + (c % 4 * 64 + d)) % 65536 / 64 % 64 = c by omega, show (x * 256 + (c % 4 * 64 + d)) % 65536 / 1 % 64 = d by omega]
  simp
theorem take4 {l : List Int} {n : Nat} (h : 4 * (n + 1) ≤ l.length) : l.take (4 * (n + 1)) = l.take (4 * n) ++ [l.getD (4 * n) 0, l.getD (4 * n + 1) 0, l.getD (4 * n + 2) 0, l.getD (4 * n + 3) 0] := by
  have g : ∀ i, i < l.length → l.take (i + 1) = l.take i ++ [l.getD i 0] := fun i hi => by
    rw [List.take_add_one, List.getElem?_eq_getElem hi, List.getD_eq_getElem?_getD, List.getElem?_eq_getElem hi]; rfl
  rw [show 4 * (n + 1) = 4 * n + 3 + 1 by omega, g _ (by omega), g _ (by omega), g _ (by omega), g _ (by omega)]
  simp
theorem o4_at (l : List Int) (n : Nat) : o4 l (0 + (n : Int) * 4) = [l.getD (4 * n) 0 * 4 + (l.getD (4 * n + 1) 0).fdiv 16, (l.getD (4 * n + 1) 0).fmod 16 * 16 + (l.getD (4 * n + 2) 0).fdiv 4, (l.getD (4 * n + 2) 0).fmod 4 * 64 + l.getD (4 * n + 3) 0] := by
  unfold o4
  rw [show (0 + (n : Int) * 4).toNat = 4 * n by omega, show (0 + (n : Int) * 4 + 1).toNat = 4 * n + 1 by omega, show (0 + (n : Int) * 4 + 2).toNat = 4 * n + 2 by omega, show (0 + (n : Int) * 4 + 3).toNat = 4 * n + 3 by omega]
theorem enc_oct {l : List Int} (h : Figs l) : ∀ n, 4 * n ≤ l.length → ∃ lc, 0 ≤ lc ∧ lc ≤ 65535 ∧ encS (octI l n) = (0, lc, (l.take (4 * n)).map chrOf)
  | 0, _ => ⟨0, by decide, by decide, rfl⟩
  | n + 1, hn => by
    obtain ⟨lc, h1, h2, h3⟩ := enc_oct h n (by omega)
    rw [octI_succ, o4_at, take4 hn]
    unfold encS at h3 ⊢
    rw [List.foldl_append, h3]
    obtain ⟨lc', g1, g2, g3⟩ := enc3 (out := (l.take (4 * n)).map chrOf) ⟨h1, h2⟩ (h.getD (4 * n)) (h.getD (4 * n + 1)) (h.getD (4 * n + 2)) (h.getD (4 * n + 3))
    refine ⟨lc', g1, g2, ?_⟩
    rw [g3, List.map_append]; rfl
theorem enc_row {l : List Int} (h : Figs l) (h4 : l.length % 4 = 0) : (encS (octI l (l.length / 4))).2.2 = l.map chrOf := by
  obtain ⟨lc, _, _, e⟩ := enc_oct h (l.length / 4) (by omega)
  rw [e]
  dsimp only
  rw [show 4 * (l.length / 4) = l.length by omega, List.take_length]
/-- the reader's turn at a figure -/
def vStep (st : Int × Int × List Int) (v : Int) : Int × Int × List Int :=
  if st.1 = 0 then (1, v, st.2.2)
  else if st.1 = 1 then (2, v % 16, st.2.2 ++ [st.2.1 * 4 + v / 16])
  else if st.1 = 2 then (3, v % 4, st.2.2 ++ [st.2.1 * 16 + v / 4])
  else (0, 0, st.2.2 ++ [st.2.1 * 64 + v])
theorem dec_vals : ∀ (cs : List Int) (st : Int × Int × List Int), cs.foldl decStep st = ((cs.map b64v).filter (fun v => decide (v < 64))).foldl vStep st
  | [], _ => rfl
  | c :: cs, st => by
    rw [List.foldl_cons, List.map_cons]
    by_cases h : b64v c ≥ 64
    · rw [List.filter_cons_of_neg (by simpa using h), dec_vals cs]
      congr 1
      unfold decStep
      rw [if_pos h]
    · rw [List.filter_cons_of_pos (by simpa using h), dec_vals cs, List.foldl_cons]
      congr 1
      unfold decStep vStep
      rw [if_neg h]
theorem dec_oct {l : List Int} : ∀ n, 4 * n ≤ l.length → (l.take (4 * n)).foldl vStep (0, 0, []) = (0, 0, octI l n)
  | 0, _ => rfl
  | n + 1, hn => by
    rw [octI_succ, o4_at, take4 hn, List.foldl_append, dec_oct n (by omega)]
    generalize octI l n = out
    rw [Int.fdiv_eq_ediv_of_nonneg _ (by decide), Int.fdiv_eq_ediv_of_nonneg _ (by decide), Int.fmod_eq_emod_of_nonneg _ (by decide), Int.fmod_eq_emod_of_nonneg _ (by decide)]
    simp only [List.foldl_cons, List.foldl_nil]
    simp [vStep]
theorem ledF_eq (ms : List Int) (l : List Int) : ledF l ms = (l.map (fun f => ms.getD f.toNat 0)).filter (fun v => decide (0 ≤ v)) := by
  have key : ∀ (l acc : List Int), l.foldl (ledG ms) acc = acc ++ (l.map (fun f => ms.getD f.toNat 0)).filter (fun v => decide (0 ≤ v)) := by
    intro l
    induction l with
    | nil => intro acc; simp
    | cons f l ih =>
      intro acc
      rw [List.foldl_cons, ih, List.map_cons]
      by_cases h : ms.getD f.toNat 0 ≥ 0
      · rw [List.filter_cons_of_pos (by simpa using h)]
        unfold ledG
        rw [if_pos h, List.append_assoc]; rfl
      · rw [List.filter_cons_of_neg (by simpa using h)]
        unfold ledG
        rw [if_neg h]
  unfold ledF
  rw [key, List.nil_append]
theorem chr_at : ∀ f : Fin 62, chrOf (f.val : Int) = letC.getD f.val 0 ∧ chrOf (f.val : Int) ≠ 43 ∧ chrOf (f.val : Int) ≠ 47 := by decide +kernel
/-- writing and reading one figure -/
theorem sign_at : ∀ a ∈ poolC, ∀ b ∈ poolC, ∀ f : Fin 64, trF 43 47 a b (chrOf (f.val : Int)) = (letC.take 62 ++ [a, b]).getD f.val 0 ∧ trF 43 47 a b (chrOf (f.val : Int)) ∈ someC := by
  intro a ha b hb f
  have hl : (letC.take 62).length = 62 := rfl
  rcases Nat.lt_or_ge f.val 62 with h | h
  · obtain ⟨h1, h2, h3⟩ := chr_at ⟨f.val, h⟩
    dsimp only at h1 h2 h3
    have e : trF 43 47 a b (chrOf (f.val : Int)) = letC.getD f.val 0 := by
      unfold trF
      rw [if_neg h3, if_neg h2, h1]
    have h4 : f.val < letC.length := by
      show f.val < 64
      omega
    rw [e]
    refine ⟨?_, ?_⟩
    · rw [List.getD_eq_getElem?_getD, List.getD_eq_getElem?_getD, List.getElem?_append_left (by omega), List.getElem?_take_of_lt h]
    · rw [List.getD_eq_getElem?_getD, List.getElem?_eq_getElem h4]
      exact List.mem_append_left _ (List.getElem_mem h4)
  · have h5 : f.val = 62 ∨ f.val = 63 := by omega
    rcases h5 with h5 | h5
    · rw [h5]
      have e : trF 43 47 a b (chrOf ((62 : Nat) : Int)) = a := rfl
      rw [e]
      exact ⟨rfl, pool_mem a ha⟩
    · rw [h5]
      have e : trF 43 47 a b (chrOf ((63 : Nat) : Int)) = b := rfl
      rw [e]
      exact ⟨rfl, pool_mem b hb⟩
theorem read_at : ∀ a ∈ poolC, ∀ b ∈ poolC, a ≠ b → ∀ c ∈ someC, b64v (trF a b 43 47 c) = (if 0 ≤ leadP a b c then leadP a b c else 64) ∧ trF a b 43 47 c ≠ 61 := by decide +kernel
theorem r_ne (n : Int) : r0 n ≠ r1 n := by
  have key : ∀ a : Fin 6, ∀ x : Fin 5, pc (a.val : Int) ≠ pc (((a.val : Int) + 1 + (x.val : Int)).fmod 6) := by decide
  have h1 := fmod6 (n.fdiv 36)
  have h2 : 0 ≤ (n.fdiv 216).fmod 5 ∧ (n.fdiv 216).fmod 5 < 5 := by
    rw [Int.fmod_eq_emod_of_nonneg _ (by decide)]
    omega
  have := key ⟨((n.fdiv 36).fmod 6).toNat, by omega⟩ ⟨((n.fdiv 216).fmod 5).toNat, by omega⟩
  dsimp only at this
  rw [Int.toNat_of_nonneg h1.1, Int.toNat_of_nonneg h2.1] at this
  exact this
def gF (n : Int) (f : Int) : Int := trF (r0 n) (r1 n) 43 47 (trF 43 47 (w0 n) (w1 n) (chrOf f))
theorem gF_eq {n f : Int} (hf : 0 ≤ f ∧ f < 64) : b64v (gF n f) = (if 0 ≤ (mF n).getD f.toNat 0 then (mF n).getD f.toNat 0 else 64) ∧ gF n f ≠ 61 := by
  obtain ⟨h1, h2⟩ := sign_at _ (w0_pool n) _ (w1_pool n) ⟨f.toNat, by omega⟩
  dsimp only at h1 h2
  rw [Int.toNat_of_nonneg hf.1] at h1 h2
  obtain ⟨h3, h4⟩ := read_at _ (r0_pool n) _ (r1_pool n) (r_ne n) _ h2
  have e : (mF n).getD f.toNat 0 = leadP (r0 n) (r1 n) (trF 43 47 (w0 n) (w1 n) (chrOf f)) := by
    rw [mF_eq, h1]
    unfold mapP
    have hl : f.toNat < (letC.take 62 ++ [w0 n, w1 n]).length := by
      rw [List.length_append, List.length_take]
      have : letC.length = 64 := rfl
      simp only [List.length_cons, List.length_nil]
      omega
    rw [List.getD_eq_getElem?_getD, List.getElem?_map, List.getD_eq_getElem?_getD, List.getElem?_eq_getElem hl]
    rfl
  rw [e]
  exact ⟨h3, h4⟩
theorem read_led {n : Int} : ∀ {l : List Int}, Figs l → ((l.map (gF n)).map b64v).filter (fun v => decide (v < 64)) = ledF l (mF n)
  | [], _ => rfl
  | f :: l, h => by
    have ih := read_led (n := n) (l := l) fun x hx => h x (.tail _ hx)
    have hg := (gF_eq (n := n) (h f (.head _))).1
    have hin := getD_ok (mF_ok n) f.toNat
    rw [ledF_eq] at ih ⊢
    rw [List.map_cons, List.map_cons, List.map_cons]
    by_cases h0 : 0 ≤ (mF n).getD f.toNat 0
    · rw [if_pos h0] at hg
      rw [List.filter_cons_of_pos (by rw [hg]; simpa using hin.2), List.filter_cons_of_pos (by simpa using h0), hg, ih]
    · rw [if_neg h0] at hg
      rw [List.filter_cons_of_neg (by rw [hg]; decide), List.filter_cons_of_neg (by simpa using h0), ih]
theorem step_row {n : Int} {l : List Int} (h : Figs l) (h8 : l.length ≤ 8) (h4 : l.length % 4 = 0) (h4' : (ledF l (mF n)).length % 4 = 0) :
    StepOk (octI l (l.length / 4)) (w0 n) (w1 n) (r0 n) (r1 n) (octI (ledF l (mF n)) ((ledF l (mF n)).length / 4)) := by
  have hw := enc_row h h4
  have e : ((l.map chrOf).map (trF 43 47 (w0 n) (w1 n))).map (trF (r0 n) (r1 n) 43 47) = l.map (gF n) := by
    rw [List.map_map, List.map_map]; rfl
  have hd : decF (octI l (l.length / 4)) (w0 n) (w1 n) (r0 n) (r1 n) = (0, 0, octI (ledF l (mF n)) ((ledF l (mF n)).length / 4)) := by
    unfold decF decS
    rw [hw, e, dec_vals, read_led h]
    have := dec_oct (l := ledF l (mF n)) ((ledF l (mF n)).length / 4) (by omega)
    rw [show 4 * ((ledF l (mF n)).length / 4) = (ledF l (mF n)).length by omega, List.take_length] at this
    exact this
  refine ⟨octI_in h _, by rw [octI_length]; omega, by rw [octI_length]; omega, ?_, by rw [hd], by rw [hd]⟩
  rw [hw, e]
  intro c hc
  obtain ⟨f, hf, rfl⟩ := List.mem_map.mp hc
  exact (gF_eq (h f hf)).2
theorem led_join {b M : List Int} (hM : M.length = 64) : ∀ {l : List Int}, Figs l → ledF l (M.map (joinF b)) = ledF (ledF l M) b
  | [], _ => rfl
  | f :: l, h => by
    have ih := led_join (b := b) hM (l := l) fun x hx => h x (.tail _ hx)
    have hf := h f (.head _)
    have e : (M.map (joinF b)).getD f.toNat 0 = joinF b (M.getD f.toNat 0) := by
      rw [List.getD_eq_getElem?_getD, List.getElem?_map, List.getD_eq_getElem?_getD, List.getElem?_eq_getElem (by omega)]; rfl
    rw [ledF_eq, ledF_eq, ledF_eq] at ih ⊢
    rw [List.map_cons, List.map_cons, e]
    by_cases h0 : 0 ≤ M.getD f.toNat 0
    · rw [List.filter_cons_of_pos (a := M.getD f.toNat 0) (by simpa using h0), List.map_cons]
      have ej : joinF b (M.getD f.toNat 0) = b.getD (M.getD f.toNat 0).toNat 0 := by unfold joinF; rw [if_neg (by omega)]
      rw [ej]
      by_cases h1 : 0 ≤ b.getD (M.getD f.toNat 0).toNat 0
      · rw [List.filter_cons_of_pos (by simpa using h1), List.filter_cons_of_pos (by simpa using h1), ih]
      · rw [List.filter_cons_of_neg (by simpa using h1), List.filter_cons_of_neg (by simpa using h1), ih]
    · rw [List.filter_cons_of_neg (a := M.getD f.toNat 0) (by simpa using h0)]
      have ej : joinF b (M.getD f.toNat 0) = -1 := by unfold joinF; rw [if_pos (by omega)]
      rw [ej, List.filter_cons_of_neg (by decide), ih]
theorem ways_get {figs : List Int} : ∀ {mss : List (List Int)} (i : Nat), i < (waysF figs mss).length → ∀ M, mss[i]? = some M → (waysF figs mss)[i]? = some (ledF figs M) ∧ (ledF figs M).length % 4 = 0
  | [], i, h, _, _ => by cases h
  | ms :: r, i, h, M, hM => by
    unfold waysF at h ⊢
    split at h
    · rename_i h4
      rw [if_pos h4]
      cases i with
      | zero =>
        cases hM
        exact ⟨rfl, h4⟩
      | succ i =>
        have := ways_get (figs := figs) (mss := r) i (by simpa using h) M (by simpa using hM)
        simpa using this
    · cases h
theorem mss_at (n : Int) : ∀ (m : Nat) (r : List Int), r.length = m → ∀ i, i ≤ r.length → (mssS n r).1[i]? = some (mssS n (r.take i)).2 := by
  intro m
  induction m with
  | zero =>
    intro r hr i hi
    have : r = [] := List.length_eq_zero_iff.mp hr
    subst this
    have : i = 0 := by simpa using hi
    subst this
    rfl
  | succ m ih =>
    intro r hr i hi
    have hne : r ≠ [] := fun e => by rw [e] at hr; cases hr
    obtain ⟨r', x, rfl⟩ : ∃ r' x, r = r' ++ [x] := ⟨r.dropLast, r.getLast hne, (List.dropLast_concat_getLast hne).symm⟩
    have hl : r'.length = m := by simpa using hr
    rw [mssS_snoc]
    by_cases h : i ≤ r'.length
    · rw [List.getElem?_append_left (by rw [mssS_len]; omega), ih r' hl i h, List.take_append_of_le_length h]
    · have hi2 : i = r'.length + 1 := by simp at hi; omega
      subst hi2
      rw [List.getElem?_append_right (by rw [mssS_len]; omega), mssS_len, Nat.sub_self, List.take_of_length_le (by simp), mssS_snoc]
      rfl
/-- the row's figures behind i stations -/
def curF (figs : List Int) (n0 : Int) (nr : List Int) : Nat → List Int
  | 0 => figs
  | i + 1 => ledF figs (mssS n0 (nr.take i)).2
theorem cur_step {figs : List Int} {n0 n : Int} {nr : List Int} (hF : Figs figs) {i : Nat} (hn : (n0 :: nr)[i]? = some n) : curF figs n0 nr (i + 1) = ledF (curF figs n0 nr i) (mF n) := by
  cases i with
  | zero => cases hn; rfl
  | succ i =>
    have hk : nr[i]? = some n := by simpa using hn
    show ledF figs (mssS n0 (nr.take (i + 1))).2 = ledF (ledF figs (mssS n0 (nr.take i)).2) (mF n)
    rw [take_snoc hk, mssS_snoc]
    exact led_join (mssS_ok n0 (nr.take i)).1.1 hF
theorem oF_cur {figs : List Int} {n0 : Int} {nr : List Int} (hl : figs.length = 8) {i : Nat} (hi : i ≤ (Wn figs n0 nr).length) : oF figs (Wn figs n0 nr) i = octI (curF figs n0 nr i) ((curF figs n0 nr i).length / 4) := by
  cases i with
  | zero =>
    show octI figs 2 = octI figs (figs.length / 4)
    rw [hl]
  | succ i =>
    have hw := ways_len figs (mssS n0 nr).1
    have hlen := mssS_len n0 nr
    have hi' : i < (waysF figs (mssS n0 nr).1).length := hi
    obtain ⟨h1, h2⟩ := ways_get i hi' _ (mss_at n0 _ nr rfl i (by omega))
    show octI ((Wn figs n0 nr).getD i []) (((Wn figs n0 nr).getD i []).length / 4) = _
    have e : (Wn figs n0 nr).getD i [] = curF figs n0 nr (i + 1) := by
      rw [List.getD_eq_getElem?_getD, h1]; rfl
    rw [e]
theorem cur_ok {figs : List Int} {n0 : Int} {nr : List Int} (hF : Figs figs) (hl : figs.length = 8) {i : Nat} (hi : i ≤ (Wn figs n0 nr).length) : Figs (curF figs n0 nr i) ∧ (curF figs n0 nr i).length ≤ 8 ∧ (curF figs n0 nr i).length % 4 = 0 := by
  cases i with
  | zero => exact ⟨hF, by show figs.length ≤ 8; omega, by show figs.length % 4 = 0; omega⟩
  | succ i =>
    have hw := ways_len figs (mssS n0 nr).1
    have hlen := mssS_len n0 nr
    have hi' : i < (waysF figs (mssS n0 nr).1).length := hi
    obtain ⟨h1, h2⟩ := ways_get i hi' _ (mss_at n0 _ nr rfl i (by omega))
    exact ways_ok hl (mssS_ok n0 nr).2.2 _ (List.mem_of_getElem? h1)
theorem step_ok {figs : List Int} {n0 : Int} {nr : List Int} (hF : Figs figs) (hl : figs.length = 8) : ∀ (i : Nat) n, (n0 :: nr)[i]? = some n → i < (Wn figs n0 nr).length → StepOk (oF figs (Wn figs n0 nr) i) (w0 n) (w1 n) (r0 n) (r1 n) (oF figs (Wn figs n0 nr) (i + 1)) := by
  intro i n hn hi
  have h1 := cur_ok hF hl (Nat.le_of_lt hi)
  have h2 := cur_ok (i := i + 1) hF hl hi
  rw [oF_cur hl (Nat.le_of_lt hi), oF_cur (i := i + 1) hl hi]
  rw [cur_step hF hn] at h2 ⊢
  exact step_row h1.1 h1.2.1 h1.2.2 h2.2.2
theorem bags_ok {figs : List Int} {n0 : Int} {nr : List Int} (hF : Figs figs) (hl : figs.length = 8) : ∀ led, led = ([figs] ++ Wn figs n0 nr).getLastD [] → uRes (encS (octI figs 2)).2.2 (encS (oF figs (Wn figs n0 nr) (Wn figs n0 nr).length)).2.2 = (missF figs led figs.length, unexF figs led led.length) := by
  intro led hled
  have hc := cur_ok (n0 := n0) (nr := nr) hF hl (Nat.le_refl _)
  have e1 : octI figs 2 = octI figs (figs.length / 4) := by rw [hl]
  have e2 : led = curF figs n0 nr (Wn figs n0 nr).length := by
    rw [hled]
    cases hq : (Wn figs n0 nr).length with
    | zero =>
      have : Wn figs n0 nr = [] := List.length_eq_zero_iff.mp hq
      rw [this]; rfl
    | succ k =>
      have hw := ways_len figs (mssS n0 nr).1
      have hlen := mssS_len n0 nr
      have hk : k < (waysF figs (mssS n0 nr).1).length := by
        have : (waysF figs (mssS n0 nr).1).length = k + 1 := hq
        omega
      obtain ⟨h1, _⟩ := ways_get k hk _ (mss_at n0 _ nr rfl k (by omega))
      have e3 : (Wn figs n0 nr).getLast? = some (curF figs n0 nr (k + 1)) := by
        rw [List.getLast?_eq_getElem?, hq]
        exact h1
      rw [List.getLastD_eq_getLast?, List.getLast?_append, e3]; rfl
  rw [oF_cur hl (Nat.le_refl _), e1, enc_row hF (by omega), enc_row hc.1 hc.2.2, ← e2]
  rw [← e2] at hc
  exact bags_plain hF hc.1
theorem anew_L19 : True := by
  w_top off
  k_with_none
  trivial
set_option maxHeartbeats 1000000
theorem refs_eq (l : List (Addr × Obj)) : refsOf l = (l.map (·.1)).map Value.ref := by
  unfold refsOf
  rw [List.map_map]; rfl
theorem TabOk.ne' {h : Heap} {oT o : Obj} (x : TabOk h oT) (e : o.cls ≠ .none) : o ≠ oT := fun q => by
  rcases x with rfl | ⟨c, rfl, _⟩
  · rw [q] at e; exact e rfl
  · rw [q] at e; exact e rfl
theorem TabOk.nd {h : Heap} {oT : Obj} (x : TabOk h oT) : ∀ es ep, oT.data ≠ .dict es ep := fun es ep e => by
  rcases x with rfl | ⟨c, rfl, _⟩
  · cases e
  · cases e
section
variable {w : World} {mean : ExcName → Option Value} {mg mb : Str → Option Value} {dp un : Nat} {gd : Option (List Code)} {s : Shared} {Q E : Value → Shared → Prop}
theorem right_at {gh : Heap} {env : Env} {L a b c : Addr} {m : Str → Option Value} {vs : List Value} {figs nr : List Int} {n0 : Int} {ka kb kc : Nat} {oT : Obj} {rest tups mobjs : List (Addr × Obj)}
   (X : (pre.heap_1 w.params).In gh) (T : Top topProg LS mean mg mb gh) (C : CodeHd gh 159 155) (F : Fr gh L s.heap m) (N : News gh L s.heap ((a, W.listOf vs.toArray ka) :: (155, oT) :: rest))
   (hda : a ≠ 155) (hoff : ∀ p ∈ rest, p.1 ≠ 155) (hTab : TabOk s.heap oT) (hb : (b, W.listOf (refsOf tups).toArray kb) ∈ rest) (hc : (c, W.listOf (refsOf mobjs).toArray kc) ∈ rest) (hts : ∀ p ∈ tups, p ∈ rest) (hmo : ∀ p ∈ mobjs, p ∈ rest)
   (hTu : TupsAre tups (n0 :: nr)) (hMa : MapsAre mobjs (mssS n0 nr).1) (hnr : nr.length ≤ 6) (hv : IntsAre vs figs) (hF : Figs figs) (hl : figs.length = 8) (hek : env.scope.kind ≠ .module) (hef : env.frame = some L) (hdp : dp + 12 < recursionLimit) (hun : un + 256 < cLine)
   (hret : ∀ h' tk' oT', Fr gh L h' m → News gh L h' ((a, W.listOf vs.toArray ka) :: (155, oT') :: rest) → TabOk h' oT' → Q (.bool true) { s with heap := h', toks := tk' }) :
   wpAny (model PySem.Challenge.rw_pa0046_01.row.prog w) (Ar dp un gd (some [env])) (call (.ref 179) [Value.ref a, Value.ref b, Value.ref c]) Q E s := by
  obtain ⟨oL, es, ep, hL, hLd, hLr⟩ := F.ns
  have h155 := (N (155, oT) (.tail _ (.head _))).1
  have n155 := (N (155, oT) (.tail _ (.head _))).2
  dsimp only at h155 n155
  have hup : ∀ p ∈ (a, W.listOf vs.toArray ka) :: rest, (hideAll s.heap [L, 155]).get? p.1 = some p.2 := fun p hp => by
    have hN : p ∈ (a, W.listOf vs.toArray ka) :: (155, oT) :: rest := by
      rcases List.mem_cons.mp hp with rfl | hp
      · exact .head _
      · exact .tail _ (.tail _ hp)
    refine hideAll_get _ (N p hN).1 fun hm => ?_
    rcases List.mem_cons.mp hm with e | hm
    · exact (N p hN).2.1 e
    · have e := List.mem_singleton.mp hm
      rcases List.mem_cons.mp hp with rfl | hp
      · exact hda e
      · exact hoff p hp e
  have kk : Keeps gh (hideAll s.heap [L, 155]) := hide_base F.keep (fun x hx => by
    rcases List.mem_cons.mp hx with rfl | hx
    · exact Heap.get?_none_of_le F.above
    · rw [List.mem_singleton.mp hx]; exact n155.2)
  have hms := mssS_ok n0 nr
  have hlen : (tups.map (·.1)).length = nr.length + 1 := by rw [List.length_map, hTu.len]; rfl
  have hlen2 : (mobjs.map (·.1)).length = (mssS n0 nr).1.length := by rw [List.length_map, hMa.len]
  have hmlen := mssS_len n0 nr
  refine right_c (g := hideAll s.heap [L, 155]) (oT := oT) (mss := (mssS n0 nr).1) (srefs := tups.map (·.1)) (mrefs := mobjs.map (·.1)) (frs := [(L, oL)]) (ka := ka) (X.keeps kk) (T.keeps kk) (C.keeps kk) hide_keeps hide_le (hideAll_none _ (.tail _ (.head _))) h155 hTab ?_ ⟨hek, hef, ⟨es, ep, hLd⟩, trivial⟩ hdp hun
    (hup _ (.head _)) hv hF (by omega) ?_ ?_ (by omega) (by omega) hlen2 ?_ ?_ (ways_ok hl hms.2.2) ?_ (bags_ok hF hl) ?_
  · intro q hq
    rw [List.mem_singleton.mp hq]
    exact ⟨hL, hideAll_none _ (.head _)⟩
  · rw [← refs_eq]
    exact ⟨_, hup _ (.tail _ hb), rfl, _, rfl⟩
  · rw [← refs_eq]
    exact ⟨_, hup _ (.tail _ hc), rfl, _, rfl⟩
  · intro i r ms h1 h2
    rw [List.getElem?_map] at h1
    cases hq : mobjs[i]? with
    | none => rw [hq] at h1; cases h1
    | some p =>
      rw [hq] at h1
      cases h1
      obtain ⟨ys, k, hp2, hi⟩ := hMa.at i p ms hq h2
      refine ⟨ys, ⟨_, hup p (.tail _ (hmo p (List.mem_of_getElem? hq))), by rw [hp2], k, by rw [hp2]⟩, hi, (hms.2.2 ms (List.mem_of_getElem? h2)).1⟩
  · have := ways_len figs (mssS n0 nr).1
    omega
  · intro i r h1
    rw [List.getElem?_map] at h1
    cases hq : tups[i]? with
    | none => rw [hq] at h1; cases h1
    | some p =>
      rw [hq] at h1
      cases h1
      have hi : i < (n0 :: nr).length := by rw [← hTu.len]; exact (List.getElem?_eq_some_iff.mp hq).1
      have hn := List.getElem?_eq_getElem hi
      obtain ⟨t1, t2, k, hcl, hda2⟩ := hTu.at i p _ hq hn
      refine ⟨w0 _, w1 _, r0 _, r1 _, t1, t2, ⟨p.2, hup p (.tail _ (hts p (List.mem_of_getElem? hq))), hcl, k, ?_⟩, pc_in _, pc_in _, pc_in _, pc_in _, fun hiw => step_ok hF hl i _ hn hiw⟩
      rw [hda2, stW_eq, stR_eq]
  · intro frs' oT' h' tk' SU hfr h155' hTab' kp
    cases frs' with
    | nil => exact SU.elim
    | cons q qs =>
      obtain ⟨s1, ⟨sl, s2⟩, _⟩ := SU
      have hLq := hfr q (.head _)
      dsimp only at s1 s2
      rw [s1, s2] at hLq
      refine hret h' tk' oT' ⟨⟨_, es, ep, hLq, hLd, hLr⟩, fun x o e => kp x o (kk x o e), F.above⟩ (fun p hp => ?_) hTab'
      rcases List.mem_cons.mp hp with rfl | hp
      · exact ⟨kp _ _ (hup _ (.head _)), (N _ (.head _)).2⟩
      · rcases List.mem_cons.mp hp with rfl | hp
        · exact ⟨h155', n155⟩
        · exact ⟨kp _ _ (hup p (.tail _ hp)), (N p (.tail _ (.tail _ hp))).2⟩
end
/-- the ledger at the call of _law_right -/
theorem pickR {h₀ h : Heap} {L : Addr} {f c i e d : Addr × Obj} {kn tl cc : List (Addr × Obj)} {oT : Obj} (N : News h₀ L h (f :: c :: i :: e :: d :: (kn ++ ((155, oT) :: (tl ++ cc))))) : News h₀ L h (f :: (155, oT) :: (c :: i :: e :: d :: (kn ++ tl))) := fun p hp => N p (by
  simp only [List.mem_cons, List.mem_append] at hp ⊢
  rcases hp with h | h | h | h | h | h | h | h <;> simp [h])
theorem pickB {h₀ h : Heap} {L : Addr} {f c i e d : Addr × Obj} {kn tl : List (Addr × Obj)} {oT : Obj} (N : News h₀ L h (f :: (155, oT) :: (c :: i :: e :: d :: (kn ++ tl)))) : News h₀ L h (c :: i :: e :: d :: (kn ++ ((155, oT) :: tl))) := fun p hp => N p (by
  simp only [List.mem_cons, List.mem_append] at hp ⊢
  rcases hp with h | h | h | h | h | h | h <;> simp [h])
theorem cell_ne155 {h₀ h h2 : Heap} {L : Addr} {news : List (Addr × Obj)} {oT : Obj} {p : Addr × Obj} {v : Option Value} (N : News h₀ L h news) (h155 : (155, oT) ∈ news) (hp : p ∈ news) (hT : TabOk h2 oT) (e : p.2.cls ≠ .none ∨ p.2.data = .cell v) : p.1 ≠ 155 := by
  refine news_ne (N p hp).1 (N _ h155).1 fun q => ?_
  rcases e with e | e
  · exact hT.ne' e q
  · dsimp only at q
    rcases hT with rfl | ⟨c, rfl, _⟩
    · rw [q] at e; cases e
    · rw [q] at e; cases e
theorem tups_cls {l : List (Addr × Obj)} {ns : List Int} (h : TupsAre l ns) : ∀ p ∈ l, p.2.cls ≠ .none := by
  induction h with
  | nil => exact fun _ h => nomatch h
  | cons hc _ _ ih =>
    intro p hp
    rcases List.mem_cons.mp hp with rfl | hp
    · rw [hc]; decide
    · exact ih p hp
theorem pickZ {h₀ h : Heap} {L D : Addr} {its : Array Value} {k : Nat} {ps : Array Value} {news : List (Addr × Obj)} (N : News h₀ L h ((D, W.listOf its k) :: news)) (hm : (155, tabObj ps) ∈ news) : News h₀ L h [(D, W.listOf its k), (155, tabObj ps)] := fun p hp => N p (by
  rcases List.mem_cons.mp hp with rfl | hp
  · exact .head _
  · rw [List.mem_singleton.mp hp]; exact .tail _ hm)
theorem t15.tw6452515407711116909 : True := trivial
theorem t15.tw11386406701294789256 : True := trivial
theorem t15.tw11953921416853498417 : True := trivial
theorem t15.tw5679591393979242200 : True := trivial
theorem t15.tw8198560789357047475 : True := trivial
theorem t15.tw4899578369635921489 : True := trivial
theorem t15.tw2701017874825097341 : True := trivial
theorem t15.tw487333166599982117 : True := trivial
theorem t15.tw9037602328716989718 : True := trivial
theorem t15.tw11409225568780288435 : True := trivial
theorem t15.tw12957795283732052934 : True := trivial
theorem t15.tw8897455062445481593 : True := trivial
theorem t15.tw1914783954818867757 : True := trivial
theorem t15.tw11436221289346862956 : True := trivial
theorem t15.tw1111560850044907477 : True := trivial
theorem t15.tw6905007901361831921 : True := trivial
theorem t15.tw11902645748577229892 : True := trivial
theorem t15.tw18102351059416850277 : True := trivial
theorem t15.tw13469886060117732233 : True := trivial
theorem t15.tw961007501082191325 : True := trivial
theorem t15.tw10372034854212470546 : True := trivial
theorem t15.tw9950060518158220960 : True := trivial
theorem t15.tw4331019909738260927 : True := trivial
theorem t15.tw13463187211465398638 : True := trivial
theorem t15.tw16437436417030011438 : True := trivial
theorem t15.tw12346755861915168583 : True := trivial
theorem t15.tw12800655674234783341 : True := trivial
theorem t15.tw10149991484702982554 : True := trivial
theorem t15.tw11535874018598366280 : True := trivial
theorem t15.tw3314719484002728450 : True := trivial
theorem t15.tw5179140192406870107 : True := trivial
theorem t15.tw11328748990105730911 : True := trivial
theorem t15.tw18019853825438581668 : True := trivial
theorem t15.tw3003051244759157323 : True := trivial
theorem t15.tw12554287919630777760 : True := trivial
theorem t15.tw698251213428223242 : True := trivial
theorem t15.tw5743565448490073834 : True := trivial
theorem t15.tw10999225158282616118 : True := trivial
theorem t15.tw734913130315438238 : True := trivial
theorem t15.tw6974136279297823095 : True := trivial
theorem t15.tw12657279858299750663 : True := trivial
theorem t15.tw4935485993301493168 : True := trivial
theorem t15.tw15247001581625111598 : True := trivial
theorem t15.tw7578572549845237990 : True := trivial
theorem t15.tw197463294181740998 : True := trivial
theorem t15.tw17058466257860585082 : True := trivial
theorem t15.tw15070041788696669956 : True := trivial
theorem t15.tw9316565476295123334 : True := trivial
theorem t15.tw5382383419747610646 : True := trivial
theorem t15.tw12173873399183653615 : True := trivial
theorem t15.tw13490884772919553628 : True := trivial
theorem t15.tw7642973117284232651 : True := trivial
theorem t15.tw11471903784647789976 : True := trivial
theorem t15.tw1467564038534496420 : True := trivial
theorem t15.tw10155525881296775686 : True := trivial
theorem t15.tw16109894540591990222 : True := trivial
theorem t15.tw12913263169771483795 : True := trivial
theorem t15.tw9721283162803321754 : True := trivial
theorem t15.tw2875133031389397842 : True := trivial
theorem t15.tw5108966871427723902 : True := trivial
theorem t15.tw3649389547233254432 : True := trivial
theorem t15.tw8422017996361472828 : True := trivial
theorem t15.tw17611466211125610286 : True := trivial
theorem t15.tw12742203653139406384 : True := trivial
theorem t15.tw2774706202116902183 : True := trivial
theorem t15.tw17764368757799953227 : True := trivial
theorem t15.tw11602360072592150634 : True := trivial
theorem t15.tw17782772782649101316 : True := trivial
theorem t15.tw6031788932082448495 : True := trivial
theorem t15.tw316094020493966585 : True := trivial
theorem t15.tw7294939251223364402 : True := trivial
theorem t15.tw16750111100469023437 : True := trivial
theorem t15.tw6343450319970348485 : True := trivial
theorem t15.tw7159056852049900041 : True := trivial
theorem t15.tw15912456047942114311 : True := trivial
theorem t15.tw3516744406640511577 : True := trivial
theorem t15.tw3810122048913154508 : True := trivial
theorem t15.tw9370795744687064339 : True := trivial
theorem t15.tw9959932332838948094 : True := trivial
theorem t15.tw1772571572060946845 : True := trivial
theorem t15.tw8043257868625514130 : True := trivial
theorem t15.tw16950302755747636746 : True := trivial
theorem t15.tw2035584084336130846 : True := trivial
theorem t15.tw12959513549702725 : True := trivial
theorem t15.tw12228542801074702648 : True := trivial
theorem t15.tw4195083998545332278 : True := trivial
theorem t15.tw8965325529927037661 : True := trivial
theorem t15.tw15898033954156172879 : True := trivial
theorem t15.tw15909567771784222407 : True := trivial
theorem t15.tw12412159543883465515 : True := trivial
theorem t15.tw803971703151517369 : True := trivial
theorem t15.tw16162193849034924927 : True := trivial
theorem t15.tw5072285087263957576 : True := trivial
theorem t15.tw2079010524004658455 : True := trivial
theorem t15.tw9811645841417545481 : True := trivial
theorem t15.tw473514236604230868 : True := trivial
theorem t15.tw7107053288344033039 : True := trivial
theorem t15.tw13057008398663669637 : True := trivial
theorem t15.tw13170210573929425917 : True := trivial
theorem t15.tw3483604798386356583 : True := trivial
theorem t15.tw17298231886009850122 : True := trivial
theorem t15.tw7049854088264625659 : True := trivial
theorem t15.tw6274100901922487336 : True := trivial
theorem t15.tw9047661488972650271 : True := trivial
theorem t15.tw14252339829178526903 : True := trivial
theorem t15.tw13186161256834705071 : True := trivial
theorem t15.tw1293747838405000201 : True := trivial
theorem t15.tw15618914113866533545 : True := trivial
theorem t15.tw8509373562967681663 : True := trivial
theorem t15.tw3650050053273330180 : True := trivial
theorem t15.tw12435863173768755635 : True := trivial
theorem t15.tw17461833151631633817 : True := trivial
theorem t15.tw8681894412843550366 : True := trivial
theorem t15.tw11504868332585968467 : True := trivial
theorem t15.tw7445997748645165718 : True := trivial
theorem t15.tw11793946614942950113 : True := trivial
theorem t15.tw10288799766076697786 : True := trivial
theorem t15.tw16684527785886436215 : True := trivial
theorem t15.tw11956483756434255157 : True := trivial
theorem t15.tw738100857424173769 : True := trivial
theorem t15.tw14625775198755335942 : True := trivial
theorem t15.tw11971202473774310110 : True := trivial
theorem t15.tw10935448685476252693 : True := trivial
theorem t15.tw777074233052538836 : True := trivial
theorem t15.tw10977453086241944864 : True := trivial
theorem t15.tw10147516019706211242 : True := trivial
theorem t15.tw14983877763649238552 : True := trivial
theorem t15.tw8844092186375214345 : True := trivial
theorem t15.tw569577719670522961 : True := trivial
theorem t15.tw17093542907465294561 : True := trivial
theorem t15.tw13872647522580654181 : True := trivial
theorem t15.tw6629288939595004649 : True := trivial
theorem t15.tw5581876603106185969 : True := trivial
theorem t15.tw11006606556035380110 : True := trivial
theorem t15.tw538964397807949545 : True := trivial
theorem t15.tw2670674112916597063 : True := trivial
theorem t15.tw7960945037276630803 : True := trivial
theorem t15.tw12547151901521725856 : True := trivial
theorem t15.tw10350716425963575230 : True := trivial
theorem t15.tw5064266725513486033 : True := trivial
theorem t15.tw3281728795875220299 : True := trivial
theorem t15.tw5205551781180598143 : True := trivial
theorem t15.tw5342119662804117968 : True := trivial
theorem t15.tw1369746434359475507 : True := trivial
theorem t15.tw18138728757182210287 : True := trivial
theorem t15.tw18064167168947990112 : True := trivial
theorem t15.tw12584956516465175730 : True := trivial
theorem t15.tw2533119276755489860 : True := trivial
theorem t15.tw14396399090798309176 : True := trivial
theorem t15.tw11378756029612060504 : True := trivial
theorem t15.tw13279687820038682838 : True := trivial
theorem t15.tw1912144523078647864 : True := trivial
theorem t15.tw3116030255282778161 : True := trivial
theorem t15.tw508894448355737564 : True := trivial
theorem t15.tw17392834891316589916 : True := trivial
theorem t15.tw15213172966804435594 : True := trivial
theorem t15.tw4327263754270659350 : True := trivial
theorem t15.tw9714557255724494711 : True := trivial
theorem t15.tw6268281653251687873 : True := trivial
theorem t15.tw5791697739480891292 : True := trivial
theorem t15.tw15529058315465683000 : True := trivial
theorem t15.tw17393736068654848903 : True := trivial
theorem t15.tw18034319468340404890 : True := trivial
theorem t15.tw13265827042780669345 : True := trivial
theorem t15.tw460226025085913564 : True := trivial
theorem t15.tw16618835615150204413 : True := trivial
theorem t15.tw924570689373818862 : True := trivial
theorem anew_F15 : True := by
  w_top off
  k_with_none
  trivial
set_option maxHeartbeats 2000000
theorem pick9 {h₀ h : Heap} {L : Addr} {p0 p1 p2 p3 p4 p5 p6 p7 p8 : Addr × Obj} (N : News h₀ L h [p0, p1, p2, p3, p4, p5, p6, p7, p8]) : News h₀ L h [p0, p4, p5, p6, p7, p8] := fun p hp => N p (by
  simp only [List.mem_cons, List.not_mem_nil, or_false] at hp ⊢
  rcases hp with h | h | h | h | h | h <;> simp [h])
theorem pick11 {h₀ h : Heap} {L : Addr} {p0 p1 p2 p3 p4 p5 p6 p7 p8 p9 p10 : Addr × Obj} (N : News h₀ L h [p0, p1, p2, p3, p4, p5, p6, p7, p8, p9, p10]) : News h₀ L h [p0, p5, p6, p7, p8, p9, p10] := fun p hp => N p (by
  simp only [List.mem_cons, List.not_mem_nil, or_false] at hp ⊢
  rcases hp with h | h | h | h | h | h | h <;> simp [h])
set_option Elab.async true in
theorem t15 : PySem.Challenge.rw_pa0046_01.Holds := by
  w_on
  o_law
  k_head
  case hw => w_witness2
  show WalkO Mine.pre.view_1 _ _ (kmHook Mine.pre.heap_1 _ _ _).says _ _ _ _
  k_go0
  all_goals try k_fold
  rename IntsAre _ _ => hI
  rename ¬ _ => hc
  rename Frag.In _ _ => X9
  rename Top topProg _ _ _ _ _ => T9
  rename CodeHd _ _ _ => C9
  have hlv := hI.length
  have hlb : (listOfI hI).length ≤ 63 := by
    simp only [listOfI]
    omega
  simp only [listOfI] at hlb
  repeat ((fail_if_success (with_reducible show wpAny _ _ (eval (PySem.Expr.ListComp _ _ _ _) _) _ _ _)); first | walk1 | (dsimp only; walk1))
  rename News _ _ _ _ => N9
  rename Fr _ _ _ _ => F9
  have N1 := pick9 N9
  clear N9
  refine LCg.ListComp_U (F₀ := F9) (by with_unfolding_all rfl) (by decide) (by rfl) (by decide) (by rfl) ?_
  repeat ((fail_if_success (with_reducible show LCg.CompSrc _ _ _ _ _ _ _ _ _ _ _ _ _ _)); first | walk1 | (dsimp only; walk1))
  rename News _ _ _ _ => N9
  rename Fr _ _ _ _ => F9
  have N1 := pick11 N9
  clear N9
  rename IntsAre _ _ => hNum
  obtain ⟨nums, hnums⟩ : ∃ x, x = intsOfI hNum := ⟨_, rfl⟩
  dsimp only [intsOfI] at hnums
  rw [← hnums] at hNum
  have hnl : nums.length ≤ 7 := by
    rw [hnums, List.length_append, List.length_append, List.length_take]
    simp only [List.length_cons, List.length_nil]
    omega
  refine LCg.CompSrc.ledger (by rfl) F9 N1 (.head _) (by rw [List.size_toArray, hNum.length, PySem.sizeLine_eq]; omega) ?_
  intro g'
  refine comp_ind (StJ _ nums) ?turn ?done ⟨[], (List.append_nil _).symm, rfl, .nil⟩
  case turn =>
    rintro i ys news v I oI C oC D m₂ h tk E' hi hP ⟨tups, rfl, rfl, hT⟩ hC hx F N off ne
    obtain ⟨nm, un, rfl, hnm⟩ := IntsAre.at hNum i v (by simpa using hP)
    repeat ((fail_if_success (with_reducible show wpAny _ _ (call (Value.ref 132) _) _ _ _)); first | walk1 | (dsimp only; walk1))
    refine station_c (X9.keeps F.keep) (T9.keeps F.keep) ?sroom ?sunits ?_
    case sroom => ktr_room
    case sunits => ktr_units
    intro r o t1 t2 h' tk' kp hr0 hr ht
    obtain ⟨F2, N2, hnr⟩ := back1 F N kp hr0 hr
    k_unfold
    exact .intro F2 N2 _ sub_snoc (off_snoc off hnr) (.inr ⟨_, List.mem_append_left _ (.head _), rfl, _, rfl⟩) (stJ_snoc hT hnm hr ht)
  case done =>
    rintro ys news ⟨tups, rfl, rfl, hT⟩
    unfold LCg.FinE
    intro D h tk F N off
    rw [List.size_toArray, hNum.length, List.take_length] at hT
    simp only [List.cons_append, List.nil_append] at N
    have NS := pickS N
    clear N
    refine store_cell (c := _ + 1 + 1) rfl rfl rfl F NS (by assumption) ?coff ?_
    case coff =>
      refine List.forall_mem_cons.mpr ⟨cell_off NS (.head _) (by assumption) (.tail _ (.head _)) rfl, List.forall_mem_cons.mpr ⟨cell_off NS (.head _) (by assumption) (.tail _ (.tail _ (.head _))) rfl, List.forall_mem_cons.mpr ⟨cell_off NS (.head _) (by assumption) (.tail _ (.tail _ (.tail _ (.head _)))) rfl,
        List.forall_mem_cons.mpr ⟨Nat.ne_of_gt (Nat.lt_succ_self _), List.forall_mem_cons.mpr ⟨Nat.ne_of_lt (Nat.lt_succ_self _), List.forall_mem_cons.mpr ⟨cell_off NS (.head _) (by assumption) (.tail _ (.tail _ (.tail _ (.tail _ (.tail _ (.tail _ (.head _))))))) rfl, fun p hp => cell_off NS (.head _) (by assumption) (.tail _ (.tail _ (.tail _ (.tail _ (.tail _ (.tail _ (.tail _ hp))))))) (hT.notCell p hp)⟩⟩⟩⟩⟩⟩
    clear NS F off
    intro h' oc2 F N hd2
    obtain ⟨n0, nr, hn0⟩ : ∃ n0 nr, nums = n0 :: nr := ⟨130, _, by rw [hnums]; rfl⟩
    rw [hn0] at hT
    obtain ⟨s0, so, t1, t2, ks, tr, rfl, hsc, hsd, hTr⟩ := hT.inv
    repeat ((fail_if_success (with_reducible show wpAny _ _ (subscriptTail _ _ (Value.ref _) (Value.int _ _)) _ _ _)); first | walk1 | (dsimp only; walk1))
    refine item0 (x := .ref s0) (News.isList N (.tail _ (.head _))) rfl ?_
    repeat ((fail_if_success (with_reducible show wpAny _ _ (call (Value.ref 139) _) _ _ _)); first | walk1 | (dsimp only; walk1))
    refine map_c (X9.keeps F.keep) (T9.keeps F.keep) ?mroom ?munits ⟨so, (N _ (.tail _ (.tail _ (.tail _ (.tail _ (.tail _ (.tail _ (.tail _ (.head _)))))))) ).1, hsc, ks, hsd⟩ (stW_len n0) (stR_len n0) ?_
    case mroom => ktr_room
    case munits => ktr_units
    intro x rm vm km hm tkm hx kpm hrm0 hrm hvm
    have hvm0 : IntsAre vm (mF n0) := by
      have e : x = LETTERS := hx
      subst e
      exact hvm
    clear hvm hx
    obtain ⟨F2, N2, hnr⟩ := back1 F N kpm hrm0 hrm
    clear F N kpm hrm0 hrm
    repeat ((fail_if_success (with_reducible show wpAny _ _ (storeName _ _ _) _ _ _)); first | walk1 | (dsimp only; walk1))
    rename _ ∧ _ => hlt
    rename News _ _ _ _ => N9
    rename Fr _ _ _ _ => F
    have NM := pickM N9
    clear N9
    obtain ⟨lm, hlm⟩ : ∃ x, x = adr2b NM := ⟨_, rfl⟩
    dsimp only [adr2b] at hlm
    subst hlm
    refine store_cell (c := _ + 1 + 1 + 1) rfl rfl rfl F NM (by assumption) ?moff ?_
    case moff =>
      refine cells_off NM (by assumption) ?_
      refine List.forall_mem_cons.mpr ⟨.inl rfl, List.forall_mem_cons.mpr ⟨.inl rfl, List.forall_mem_cons.mpr ⟨.inr (Nat.ne_of_lt (Nat.lt_succ_self _)), List.forall_mem_cons.mpr ⟨.inl rfl, List.forall_mem_cons.mpr ⟨.inl rfl, List.forall_mem_cons.mpr ⟨.inl rfl,
        List.forall_mem_cons.mpr ⟨.inr (Nat.ne_of_lt (Nat.lt_succ_of_lt (Nat.lt_succ_self _))), List.forall_mem_cons.mpr ⟨.inl rfl, fun p hp => .inl (hT.notCell p hp)⟩⟩⟩⟩⟩⟩⟩⟩
    have hkn0 : ∀ p ∈ (s0, so) :: tr, p.1 < lm := by
      obtain ⟨_, _, _, _, _, _, _, _, x9, x10⟩ := hlt
      exact List.forall_mem_cons.mpr ⟨x9, ktn_ltOf x10⟩
    have hrm : @LT.lt Nat _ rm lm := hlt.1
    clear NM F
    intro h' oc3 F N hd3
    repeat ((fail_if_success (with_reducible show wpAny _ _ (exec (Stmt.For _ _ _ _ _) _) _ _ _)); first | walk1 | (dsimp only; walk1))
    refine For_turns F ?_
    repeat ((fail_if_success (with_reducible show wpAny _ _ (subscriptTail _ (PySem.Expr.Slice _ _ none _) (Value.ref _) (Value.ref _)) _ _ _)); first | walk1 | (dsimp only; walk1))
    refine from_slice F N (vs := refsOf ((s0, so) :: tr)) (News.isList N (.tail _ (.tail _ (.tail _ (.tail _ (.head _)))))) (IsPart.int _ _) IsPart.none (by decide) ?_ (by with_unfolding_all rfl) (by kmk_pure) ?_
    case refine_2 =>
      rw [List.size_toArray, List.length_map, hT.len, ← hn0, PySem.sizeLine_eq]
      omega
    intro Ls h2 F2 N2 l2
    repeat ((fail_if_success (with_reducible show wpAny _ _ (pyIter _) _ _ _)); first | walk1 | (dsimp only; walk1))
    have NL := pickL N2
    have hLs : @LT.lt Nat _ lm Ls := l2 _ (.tail _ (.head _))
    refine iter_listTurns (ax := Ls) (vs := refsOf tr) (by rfl) F2 NL (.tail _ (.head _)) rfl rfl ?_
    intro I hI
    clear N F N2 F2 NL
    refine items_ind (LawJ _ lm n0 nr _) ?lturn ?ldone ⟨rfl, 0, [(rm, _)], rfl, MapsAre.cons hvm0 .nil, fun p hp => by rw [List.mem_singleton.mp hp]; exact Nat.ne_of_lt hrm⟩
    case lturn =>
      rintro i v m news oI h tk hv ⟨hmd, k, mobjs, rfl, hM, hoff⟩ hIc F N
      obtain ⟨p, hp, rfl⟩ : ∃ p, tr[i]? = some p ∧ v = .ref p.1 := by
        have hv' := hv
        unfold refsOf at hv'
        rw [List.getElem?_map] at hv'
        cases hq : tr[i]? with
        | none => rw [hq] at hv'; cases hv'
        | some p => rw [hq] at hv'; exact ⟨p, rfl, (Option.some.inj hv').symm⟩
      have hil : i < nr.length := by rw [← hTr.len]; exact (List.getElem?_eq_some_iff.mp hp).1
      obtain ⟨kk, hkk⟩ : ∃ kk, nr[i]? = some kk := ⟨_, List.getElem?_eq_getElem hil⟩
      obtain ⟨u1, u2, uk, hpc, hpd⟩ := hTr.at i p kk hp hkk
      have hmo := mssS_ok n0 (nr.take i)
      obtain ⟨rl, ysl, kl, hla, hil2⟩ := hM.last _ hmo.2.1
      have hpm : p ∈ tr := List.mem_of_getElem? hp
      have hlm2 := List.mem_of_getLast? hla
      have hml : (refsOf mobjs).getLast? = some (.ref rl) := by unfold refsOf; rw [List.getLast?_map, hla]; rfl
      have hmb : (refsOf mobjs).length < 20 := by
        rw [List.length_map, hM.len, mssS_len, List.length_take]
        have := hT.len
        rw [← hn0] at this
        have e : nums.length = nr.length + 1 := by rw [hn0]; rfl
        omega
      simp only [List.cons_append] at N
      repeat ((fail_if_success (with_reducible show wpAny _ _ (subscriptTail _ _ (Value.ref _) (Value.int _ _)) _ _ _)); first | walk1 | (dsimp only; walk1))
      rename News _ _ _ _ => N5
      refine last_at (x := .ref rl) (News.isList N5 (.tail _ (.head _))) hml ?_
      repeat ((fail_if_success (with_reducible show wpAny _ _ (call (Value.ref 139) _) _ _ _)); first | walk1 | (dsimp only; walk1))
      rename Fr _ _ _ _ => F5
      refine map_c (X9.keeps F5.keep) (T9.keeps F5.keep) ?l1room ?l1units ⟨p.2, (N5 p (.tail _ (.tail _ (.tail _ (.tail _ (.tail _ (.tail _ (.tail _ (.tail _ (.tail _ (.tail _ (.tail _ (List.mem_append_left _ hpm))))))))))))).1, hpc, uk, hpd⟩ (stW_len kk) (stR_len kk) ?_
      case l1room => ktr_room
      case l1units => ktr_units
      intro x rm2 vm2 km2 hm2 tkm2 hx2 kpm2 hrm20 hrm2 hvm2
      have hvm3 : IntsAre vm2 (mF kk) := by
        have e : x = LETTERS := hx2
        subst e
        exact hvm2
      clear hvm2 hx2
      obtain ⟨F6, N6, hnr6⟩ := back1 F5 N5 kpm2 hrm20 hrm2
      clear F5 N5 kpm2 hrm20 hrm2 F N
      repeat ((fail_if_success (with_reducible show wpAny _ _ (call (Value.ref 146) _) _ _ _)); first | walk1 | (dsimp only; walk1))
      rename News _ _ _ _ => N7
      rename Fr _ _ _ _ => F7
      refine joined_c (X9.keeps F7.keep) (T9.keeps F7.keep) ?l2room ?l2units (News.isList N7 (.tail _ (.tail _ (.tail _ (.tail _ (.tail _ (.tail _ (.tail _ (.tail _ (.tail _ (.tail _ (.tail _ (.tail _ (List.mem_append_right _ hlm2)))))))))))))) hil2 (News.isList N7 (.head _)) hvm3 hmo.1.1 (mF_ok kk).1 (fun f hf => (hmo.1.2 f hf).2) ?_
      case l2room => ktr_room
      case l2units => ktr_units
      intro rj vj kj hj tkj kpj hrj0 hrj hvj
      obtain ⟨F8, N8, hnr8⟩ := back1 F7 N7 kpj hrj0 hrj
      clear F7 N7 kpj hrj0 hrj
      repeat ((fail_if_success (with_reducible show wpAny _ _ (call (Value.builtin "list.append") _) _ _ _)); first | walk1 | (dsimp only; walk1))
      have NA := pickA N8
      clear N8
      refine append_K F8 NA (Upd.head ?loff) ?_ ?lsz
      case lsz => rw [List.size_toArray, PySem.sizeLine_eq]; omega
      case loff =>
        refine List.forall_mem_cons.mpr ⟨(hnr8 _ (.tail _ (.tail _ (.head _)))).symm, List.forall_mem_cons.mpr ⟨cls_ne NA (.tail _ (.tail _ (.head _))) (.head _) (by rw [hIc]; show Value.type "list_iterator" ≠ Value.type "list"; decide), fun q hq => ?_⟩⟩
        have hq' : q ∈ (_ :: _ :: _ :: _ :: _ :: _ :: _ :: _ :: _ :: tr) ++ mobjs := hq
        rcases List.mem_append.mp hq' with hq | hq
        · exact hknl hLs hlt q hq
        · exact hoff q hq
      intro h9 F9 N9
      clear NA F8
      repeat ((fail_if_success (with_reducible show UnrPostW _ _ _ _ _ _ _ _)); first | walk1 | (dsimp only; walk1))
      rename News _ _ _ _ => N9
      rename Fr _ _ _ _ => F9
      exact lawJ_end F9 N9 (by rw [if_neg (by decide)]; exact hmd) hM hoff hkk hvj (hnr8 _ (.tail _ (.tail _ (.head _)))).symm hIc (fun p hp => Nat.ne_of_lt (hI p (.tail _ (List.mem_append_left _ hp)))) (Nat.ne_of_lt (hI _ (.head _))) (fun mo => And.intro (.tail _ (.head _)) trivial)
    case ldone =>
      rintro m news h tk ⟨hmd, k, mobjs, rfl, hM, hoff⟩ F N
      have hMl := hT.len
      have hMn : MapsAre mobjs (mssS n0 nr).1 := by
        have e : List.take ((refsOf tr).length) nr = nr := by rw [List.length_map, hTr.len, List.take_length]
        have hM2 : MapsAre mobjs (mssS n0 (List.take ((refsOf tr).length) nr)).1 := hM
        rw [e] at hM2
        exact hM2
      simp only [List.cons_append] at N
      have NG := pickG N
      have FG := fr_say F hmd
      clear N F hmd
      repeat ((fail_if_success (with_reducible show wpAny _ _ (exec (Stmt.Assign _ _ _) _) _ _ _)); first | walk1 | (dsimp only; walk1))
      refine Assign_comp_cell (F₀ := FG) (by rfl) (by with_unfolding_all rfl) (by with_unfolding_all rfl) (by rfl) (by decide) (fun _ => rfl) (fun _ => rfl) (by rfl) (by rfl) (by rfl) ?_
      repeat ((fail_if_success (with_reducible show CellSrc _ _ _ _ _ _ _ _ _ _ _ _ _ _ _)); first | walk1 | (dsimp only; walk1))
      refine cellSrc_intro (by rfl) FG NG (.tail _ (.tail _ (.tail _ (.tail _ (.head _))))) (by show 3 ≤ 1000; decide) ?gturn ?gdone
      case gturn =>
        intro i oT cc v I2 oI2 C2 oC2 c2 ocd D2 h tk E' hi hv hcc hocd F N h155o
        clear FG NG
        obtain ⟨d, td, rfl⟩ : ∃ d t, v = .int d t := by
          have := List.mem_of_getElem? hv
          simp only [List.mem_cons, List.not_mem_nil, or_false] at this
          rcases this with rfl | rfl | rfl <;> exact ⟨_, _, rfl⟩
        simp only [List.cons_append, List.nil_append] at N
        repeat ((fail_if_success (with_reducible show wpAny _ _ (eval (PySem.Expr.ListComp _ _ _ _) _) _ _ _)); first | walk1 | (dsimp only; walk1))
        refine LCg.ListComp_U (F₀ := F) (by with_unfolding_all rfl) (by decide) (by rfl) (by decide) (by rfl) ?_
        repeat ((fail_if_success (with_reducible show LCg.CompSrc _ _ _ _ _ _ _ _ _ _ _ _ _ _)); first | walk1 | (dsimp only; walk1))
        rename IsRange _ _ _ _ _ _ _ _ => R3
        rename News _ _ _ _ => N3
        rename Fr _ _ _ _ => F3
        refine LCg.CompSrc.range (n := 8) (by rfl) F3 N3 R3 (by decide) (by rfl) (by rw [PySem.sizeLine_eq]; decide) ?_
        intro g3
        refine comp_ind (FigJ _) ?fturn ?fdone ⟨rfl, [], .nil, rfl, fun _ h => nomatch h⟩
        case fturn =>
          rintro i3 ys3 news3 v3 I3 oI3 C3 oC3 D3 m3 h3 tk3 E3 hi3 ⟨t3, rfl⟩ ⟨rfl, figs, hfi, hfl, hfF⟩ hC3 hx3 F4 N4 off4 ne4
          clear F3 N3 R3
          repeat ((fail_if_success (with_reducible show wpAny _ _ (binaryOp Operator.FloorDiv _ _) _ _ _)); first | walk1 | (dsimp only; walk1))
          refine floordiv_int (pow8 hi3).1 ?_ (.inl (PyProof.noPylong_of_log2 (pow8 hi3).2))
          repeat ((fail_if_success (with_reducible show wpAny _ _ (subscriptTail _ _ (Value.ref _) (Value.int _ _)) _ _ _)); first | walk1 | (dsimp only; walk1))
          rename News _ _ _ _ => N5
          refine item_kind (ns := kindsL) (News.isList N5 (.tail _ (.tail _ (.tail _ (.tail _ (.tail _ (.tail _ (.tail _ (.tail _ (.tail _ (.tail _ (.tail _ (.tail _ (.head _)))))))))))))) (.cons _ _ (.cons _ _ (.cons _ _ (.cons _ _ (.cons _ _ (.cons _ _ (.cons _ _ (.cons _ _ .nil)))))))) (fmod8 _).1 (fmod8 _).2 (by decide) ?_
          intro n5 t5 hn5
          rename Fr _ _ _ _ => F5
          exact .intro F5 N5 _ (fun _ hp => hp) off4 trivial (figJ_snoc hfi hfl hfF (kinds_in n5 hn5))
        case fdone =>
          rintro ys3 news3 ⟨rfl, figs, hfi, hfl, hfF⟩
          unfold LCg.FinE
          intro D9 h9 tk9 F9 N9 off9
          clear F3 N3 R3
          repeat ((fail_if_success (with_reducible show wpAny _ _ (call (Value.ref 179) _) _ _ _)); first | walk1 | (dsimp only; walk1))
          rename News _ _ _ _ => N5
          rename Fr _ _ _ _ => F5
          have NR := pickR (kn := [_, _, _, _, _, _, _]) (tl := _ :: (tr ++ mobjs)) (cc := cc) N5
          have hTab := hcc _ _ F5 (fun p hp => N5 p (.tail _ (.tail _ (.tail _ (.tail _ (.tail _ (.tail _ (.tail _ (.tail _ (.tail _ (.tail _ (.tail _ (.tail _ (.tail _ (.tail _ (List.mem_append_right _ hp))))))))))))))))
          have hno := fun (p : Addr × Obj) hp (e : p.2.cls ≠ .none) => cell_ne155 (v := none) NR (.tail _ (.head _)) (p := p) hp hTab (.inl e)
          have hnc := fun (p : Addr × Obj) v hp (e : p.2.data = .cell v) => cell_ne155 (v := v) NR (.tail _ (.head _)) (p := p) hp hTab (.inr e)
          refine right_at (tups := (s0, so) :: tr) (mobjs := mobjs) (kb := (refsOf ((s0, so) :: tr)).length) (kc := k) X9 T9 C9 F5 NR (hno _ (.head _) (fun e => by cases e)) ?roff hTab (.tail _ (.tail _ (.tail _ (.tail _ (.tail _ (.tail _ (.tail _ (.head _)))))))) (.tail _ (.tail _ (.tail _ (.tail _ (.head _))))) (fun p hp => (.tail _ (.tail _ (.tail _ (.tail _ (.tail _ (.tail _ (.tail _ (.tail _ (.tail _ (.tail _ (.tail _ (List.mem_append_left mobjs hp))))))))))))) (fun p hp => (.tail _ (.tail _ (.tail _ (.tail _ (.tail _ (.tail _ (.tail _ (.tail _ (.tail _ (.tail _ (.tail _ (.tail _ (List.mem_append_right _ hp)))))))))))))) hT hMn ?rnr hfi hfF hfl ?rek rfl ?rroom ?runits ?rret
          case roff =>
            refine List.forall_mem_cons.mpr ⟨h155o.1, List.forall_mem_cons.mpr ⟨h155o.2.1, List.forall_mem_cons.mpr ⟨h155o.2.2.1, List.forall_mem_cons.mpr ⟨h155o.2.2.2, ?_⟩⟩⟩⟩
            refine List.forall_mem_cons.mpr ⟨hno _ (.tail _ (.tail _ (.tail _ (.tail _ (.tail _ (.tail _ (.head _))))))) (fun e => by cases e), List.forall_mem_cons.mpr ⟨hnc _ _ (.tail _ (.tail _ (.tail _ (.tail _ (.tail _ (.tail _ (.tail _ (.head _)))))))) hd3, List.forall_mem_cons.mpr ⟨hnc _ _ (.tail _ (.tail _ (.tail _ (.tail _ (.tail _ (.tail _ (.tail _ (.tail _ (.head _))))))))) hd2, List.forall_mem_cons.mpr ⟨hno _ (.tail _ (.tail _ (.tail _ (.tail _ (.tail _ (.tail _ (.tail _ (.tail _ (.tail _ (.head _)))))))))) (fun e => by cases e), List.forall_mem_cons.mpr ⟨hno _ (.tail _ (.tail _ (.tail _ (.tail _ (.tail _ (.tail _ (.tail _ (.tail _ (.tail _ (.tail _ (.head _))))))))))) (fun e => by cases e), List.forall_mem_cons.mpr ⟨hno _ (.tail _ (.tail _ (.tail _ (.tail _ (.tail _ (.tail _ (.tail _ (.tail _ (.tail _ (.tail _ (.tail _ (.head _)))))))))))) (fun e => by cases e), List.forall_mem_cons.mpr ⟨hnc _ _ (.tail _ (.tail _ (.tail _ (.tail _ (.tail _ (.tail _ (.tail _ (.tail _ (.tail _ (.tail _ (.tail _ (.tail _ (.head _))))))))))))) (by assumption), ?_⟩⟩⟩⟩⟩⟩⟩
            intro q hq
            have hq' : q ∈ ((s0, so) :: tr) ++ mobjs := hq
            rcases List.mem_append.mp hq' with hq2 | hq2
            · exact hno q (.tail _ (.tail _ (.tail _ (.tail _ (.tail _ (.tail _ (.tail _ (.tail _ (.tail _ (.tail _ (.tail _ (.tail _ (.tail _ hq))))))))))))) (tups_cls hT q hq2)
            · exact hno q (.tail _ (.tail _ (.tail _ (.tail _ (.tail _ (.tail _ (.tail _ (.tail _ (.tail _ (.tail _ (.tail _ (.tail _ (.tail _ hq))))))))))))) (by rw [hMn.cls q hq2]; decide)
          case rnr =>
            have e : nums.length = nr.length + 1 := by rw [hn0]; rfl
            omega
          case rek =>
            show ScopeKind.function ≠ ScopeKind.module
            decide
          case rroom => ktr_room
          case runits => ktr_units
          case rret =>
            intro h' tk' oT' F' N' hT'
            k_unfold
            exact ⟨h', tk', oT', rfl, rfl, F', pickB N', hT'⟩
      case gdone =>
        intro D h tk oT news' F N hm hTab
        have hps : ∃ ps, oT = tabObj ps := by
          rcases hTab with rfl | ⟨c, rfl, _⟩
          · exact ⟨_, rfl⟩
          · exact ⟨_, rfl⟩
        obtain ⟨ps, rfl⟩ := hps
        have NF := pickZ (k := 3) (its := #[Value.bool true, Value.bool true, Value.bool true]) N hm
        clear N hm hTab FG NG
        dsimp only
        k_steps
end Mine
theorem PySem.Challenge.cw_pa0046_01_holds : PySem.Challenge.rw_pa0046_01.Holds := by
  exact Mine.t15
