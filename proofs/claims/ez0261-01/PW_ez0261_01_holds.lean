import PyProof.Rows.All
import Wide.All
import OpenK.AllK
import Wide.FinOn
import Lean
import PySem.Challenge.RW_ez0261_01
set_option Elab.async false
section
open PySem PySem.W PySem.Calls PyProof.Rows
set_option maxRecDepth 100000
namespace Mine
def badIds : List String := (["bytearray.__contains__", "bytearray.__mod__", "bytearray.__rmod__", "_struct.pack_into.held", "bytearray.find.held"] : List String) ++ Builtin.Bytes.decodersThatHold
def goodC : Code → Bool
  | .builtin id _ => !badIds.contains id
  | _ => true
def goodS (l : List (Code × Pos)) : Bool := l.all fun x => goodC x.1
def guarded {α : Type} (t : Sem α) (alt : α) : Sem α := do
  let st ← stack
  if goodS st then t else pure alt

/-- one step of the machine: the guard falls away where the stack is the caller's alone -/
theorem guard_falls {prog : Program} {w : World} {s : Shared} {t : Sem Fin} {alt : Fin} {n : Nat} {o : Outcome} {s' : Shared} (hz : s.asleep)
    (h : schedN (denote table) prog w n (.single s ⟨guarded t alt, .builtin "claim.caller" {}, default, []⟩) = .halted o s') :
    ∃ m, schedN (denote table) prog w m (.single s ⟨t, .builtin "claim.caller" {}, default, []⟩) = .halted o s' := by
  cases n with
  | zero => cases h
  | succ n =>
    refine ⟨n, ?_⟩
    have hs : step (denote table) prog w s ⟨guarded t alt, .builtin "claim.caller" {}, default, []⟩ = .go s ⟨t, .builtin "claim.caller" {}, default, []⟩ := rfl
    rcases sstep_single (denote table) prog w s ⟨guarded t alt, .builtin "claim.caller" {}, default, []⟩ rfl hz with e | e
    · rw [hs] at e
      simp only [schedN, e] at h
      exact h
    · rw [hs] at e; cases e

theorem wp_guard {α : Type} {M : Model} {Γ : Ctx} {t : Sem α} {alt : α} {Q : α → Pos → Shared → Prop} {E : Value → Pos → Shared → Prop} {p : Pos} {s : Shared} :
    Sem.wp M Γ (guarded t alt) Q E p s = if goodS ((Γ.code, p) :: Γ.below) then Sem.wp M Γ t Q E p s else Q alt p s := by
  show Sem.wp M Γ (if goodS ((Γ.code, p) :: Γ.below) = true then t else pure alt) Q E p s = _
  cases goodS ((Γ.code, p) :: Γ.below) <;> simp

namespace PySem.W
theorem holds_open {r : OpenRow} {q : Program} {loose : List Str} {Xt : Shared → Bool} {XP : (Str → Option Value) → Heap → Prop} {α : Type} {Yf : Shared → α} {Ya : World → α} {YP : World → Heap → Prop} {d : DefRec} {kwd : List (Str × Expr)} {N : Nat}
    (left : LeftO r.prog q loose Xt Yf Ya N) (hY : ∀ w s, Yf s = Ya w → YP w s.heap) (hYk : ∀ w h h', YP w h → (∀ b o, h.get? b = some o → h'.get? b = some o) → YP w h')
    (hX : ∀ s, Xt s = true → XP (s.heap.nsMap mainGlobals) s.heap) (hXk : ∀ mg h h', XP mg h → (∀ b o, h.get? b = some o → h'.get? b = some o) → XP mg h')
    (hdef : defOf q r.name = some (d, kwd)) (hp : r.prog.theDef r.name = some (d.params, d.body, d.scope)) (hk : kwWritten? d.params.kwonlyargs d.params.kw_defaults = some kwd) (hRf : ∀ s, Xt s = true → RecFacts r.records s.heap) (hwr : (!r.writes || r.records.isEmpty) = true)
    (k1 : r.wellSaid = true) (ok : (chainsOk q && opensWell r.prog && (frees r.toRowW && r.within.isEmpty)) = true) (hb : r.prog.bare) (hw : r.toRowW.promised)
    (call : WalkO q loose XP YP r.toRowW d kwd fun f vs => guarded (PySem.call f vs) (.bool true)) : r.Holds := by
  have H := open_anyG (r := r.toRowW) (defs := if r.pinned then [r.name] else []) (kps := r.keeps) (writes := r.writes) (run := fun f vs => guarded (PySem.call f vs) (.bool true))
    (tree := fun vs => guarded (callStub r.name vs).cur (.done (.ret (.bool true)))) left hY hYk hX hXk hRf hwr ok hb hw
    (fun vs w s mg f Q E hg hf h => fun Γ p hΓ => by
      have h' := h Γ p hΓ
      rw [wp_guard] at h' ⊢
      split at h'
      · rename_i hgood
        rw [if_pos hgood]
        show Sem.wp _ Γ (nsGet mainNs r.name >>= _) _ _ p s
        rw [Sem.wp_bind']
        have hg' : s.heap.Ns mainNs mg := hg
        rw [Sem.wp_nsGet _ Γ _ p s hg' r.name]
        rw [show mg r.name = some f from hf]
        show Sem.wp _ Γ (PySem.call f vs >>= _) _ _ p s
        rw [Sem.wp_bind']
        exact Sem.wp_mono _ Γ _ (fun _ _ _ x => x) (fun _ _ _ x => x) p s h'
      · rename_i hbad
        rw [if_neg hbad]
        exact h')
    (fun w s hg G n hn => by
      obtain rfl : n = r.name := by split at hn <;> simp_all
      exact pinned_of_view hg G hdef hp hk)
    (fun w s₀ s₁ mg mb G Y args vs as hpre hlay L low => by
      obtain ⟨a, o, pm, cd, doc, dV, kV, h1, h2, h3, h4, h5⟩ := G.fn hdef
      exact ⟨.ref a, h1, call w s₀ s₁ mg mb G Y a o pm cd doc dV kV h2 h3 h4 h5 (defOf_name hdef ▸ h1) L.gens args vs as hpre hlay L.reads L.well (L.low low)⟩)
  obtain ⟨H1, H2, H3⟩ := H
  refine ⟨k1, hw, H1, H2, fun w => ⟨(H3 w).1, fun s hs => ?_⟩⟩
  obtain ⟨s₀, e0, g0, s₁, T, D, R1, R2, C⟩ := (H3 w).2 s hs
  refine ⟨s₀, e0, g0, s₁, T, D, R1, R2, fun args hpre hlay ord hord => ?_⟩
  obtain ⟨vs, s₂, hl, n, o, s', hrun, rest⟩ := C args hpre hlay ord hord
  have hz : s₂.asleep := Shared.asleep_of_life ((layAllW_rest _ _ _ hl).2.2.2.trans (T.2.1.trans (fence_lifeW e0))) (AfterImport.life hs)
  obtain ⟨m, hm⟩ := guard_falls hz hrun
  exact ⟨vs, s₂, hl, m, o, s', hm, rest⟩
end PySem.W
end Mine
end
section
open PySem PySem.W PySem.Calls PyProof.Rows
set_option maxRecDepth 100000
set_option maxHeartbeats 8000000
namespace Mine
open_top hd for PySem.Challenge.rw_ez0261_01
end Mine
end
section
open PySem PySem.W PySem.Calls PyProof.Rows
set_option maxRecDepth 100000
namespace Mine
theorem offC0 : True := by
  w_top off
  trivial

/-- what a callee's contract stands on -/
structure Base (prog : Program) (w : World) (p : Program) (loose : List Str) (mean : ExcName → Option Value) (mg mb : Str → Option Value) (h₀ h : Heap) : Prop where
  keep : ∀ b o, h₀.get? b = some o → h.get? b = some o
  X : (hd.heap_39 w.params).In h₀
  T : Top p loose mean mg mb h₀

theorem hideAll_keep {h : Heap} (l : List Addr) {b : Addr} {o : Obj} (e : h.get? b = some o) (n : b ∉ l) : (hideAll h l).get? b = some o := hideAll_get l e n

theorem call_but {prog : Program} {w : World} {p : Program} {loose : List Str} {mean : ExcName → Option Value} {mg mb : Str → Option Value} {h₀ : Heap} {A : Around} {s : Shared} {bs : List (Addr × Obj)}
    {R : Result → Shared → Prop} {name qual : Str} {params : Arguments} {body : List Stmt} {scope : Scope} {dV kV doc pm cdv ct oc : Value} {an od : Option Addr} {osl : Array (Option Value)} {f : Addr} {args : Args} {binds : List (Str × Value)}
    (Z : Base prog w p loose mean mg mb h₀ s.heap) (hbs : ∀ q ∈ bs, s.heap.get? q.1 = some q.2 ∧ h₀.get? q.1 = none)
    (ho : (hd.heap_39 w.params).lookup f = some ⟨oc, od, .func (fnOf name qual params body scope dV kV doc pm an cdv ct), osl⟩) (hcd : codeIn (hd.heap_39 w.params) cdv qual = true) (hroom : A.depth < recursionLimit)
    (hbind : BindsTo s (fnOf name qual params body scope dV kV doc pm an cdv ct) args binds) (hloc : ∀ y ∈ binds, scope.names.lookup y.1 = some .local)
    (h : ∀ g L' h₁, Base prog w p loose mean mg mb g h₁ → (∀ b o, b ∉ bs.map (·.1) → s.heap.get? b = some o → g.get? b = some o) → Fr g L' h₁ (fun y => binds.reverse.lookup y) → News g L' h₁ bs → (hd.heap_39 w.params).In g → Top p loose mean mg mb g →
      wpAny (model prog w) (A.deeper (envOf qual scope L' f cdv)) (execs body (envOf qual scope L' f cdv))
        (fun fl s' => R (.ok (.ret (match fl with | .ret v => v | _ => .none))) s')
        (fun _ _ => False)
        { s with heap := h₁, toks := s.toks + binds.length })
    (hco : scope.isCoroutine = false := by rfl) (hgen : scope.isGenerator = false := by rfl) (hk : scope.kind = .function := by rfl)
    (hcell : ∀ x ∈ scope.names, x.2 ≠ .cell := by decide) : codeAny (model prog w) A (.call (.ref f) args) R s := by
  refine codeAny_call_def (fd := fnOf name qual params body scope dV kV doc pm an cdv ct) (body := body) (binds := binds) hroom (Z.keep _ _ (Z.X _ _ ho)) rfl (Z.T.nolimit.keeps Z.keep) (codeRec_of (Z.X.keeps Z.keep) hcd) rfl hbind hcell hloc (fun h₁ hns hk₁ => ?_) hco hgen hk
  have nm : ∀ b o, h₀.get? b = some o → b ∉ bs.map (·.1) := fun b o e q => by
    obtain ⟨p, hp, rfl⟩ := List.mem_map.mp q
    rw [(hbs p hp).2] at e; cases e
  have st : ∀ b o, b ∉ bs.map (·.1) → s.heap.get? b = some o → (hideAll s.heap (bs.map (·.1))).get? b = some o := fun b o hb e => hideAll_get _ e hb
  have st0 : ∀ b o, h₀.get? b = some o → (hideAll s.heap (bs.map (·.1))).get? b = some o := fun b o e => st b o (nm b o e) (Z.keep b o e)
  have kk : ∀ b o, (hideAll s.heap (bs.map (·.1))).get? b = some o → h₁.get? b = some o := fun b o e => hk₁ b o (of_hideAll _ e)
  refine wpAny_mono (h _ s.heap.objs.size h₁ ⟨kk, Z.X.keeps st0, Z.T.keeps st0⟩ st ⟨hns, kk, Nat.le_of_eq (hideAll_size _ _)⟩
    (fun p hp => ⟨hk₁ _ _ (hbs p hp).1, Nat.ne_of_lt (Heap.lt_size (hbs p hp).1), hideAll_none _ (List.mem_map_of_mem hp)⟩) (Z.X.keeps st0) (Z.T.keeps st0)) (fun fl s' hl => hl) fun _ _ y => y.elim
end Mine
end
section
open PySem PySem.W PySem.Calls PyProof.Rows
set_option maxRecDepth 100000
set_option maxHeartbeats 4000000
namespace Mine
theorem offC1 : True := by
  w_top off
  trivial
theorem fragOnC1 : (fun (_ : OpenLaw) (_ : Params → Frag) => True) PySem.Challenge.rw_ez0261_01 hd.heap_39 := by
  k_fill
  trivial
structure BoxOk (c b q : Int) : Prop where
  c0 : 0 ≤ c
  b0 : -9 ≤ b
  b1 : b ≤ 60
  q0 : 0 ≤ q
  small : b < 0 → c < 10 ^ 18

theorem fm_lo (a : Int) {m : Int} (h : 0 < m) : 0 ≤ a.fmod m := Int.fmod_nonneg_of_pos a h
theorem fm_hi (a : Int) {m : Int} (h : 0 < m) : a.fmod m < m := Int.fmod_lt_of_pos a h
theorem fd_lo {a m : Int} (h0 : 0 ≤ a) (h : 0 < m) : 0 ≤ a.fdiv m := Int.fdiv_nonneg h0 (Int.le_of_lt h)
theorem getD_nonneg {ns : List Int} (h : ∀ x ∈ ns, 0 ≤ x) (k : Nat) : 0 ≤ ns.getD k 0 := by
  rw [List.getD_eq_getElem?_getD]
  cases e : ns[k]? with
  | none => exact Int.le_refl _
  | some x => exact h x (List.mem_of_getElem? e)

theorem take_spec {prog : Program} {w : World} {p : Program} {loose : List Str} {mean : ExcName → Option Value} {mg mb : Str → Option Value} {h₀ : Heap} {dp un : Nat} {gd : Option (List Code)} {fr : Option (List Env)} {s : Shared}
    {R : Result → Shared → Prop} {b i : Addr} {c bb q m : Int} {tc tb tq tm : Tok} {n : Nat} {vs : List Value} {ns : List Int}
    (Z : Base prog w p loose mean mg mb h₀ s.heap) (hb : s.heap.get? b = some (listOf [.int c tc, .int bb tb, .int q tq, .ref i].toArray n)) (hb0 : h₀.get? b = none)
    (hl : s.heap.IsList i vs.toArray) (hi : IntsAre vs ns) (hn : ns.length ≤ 63) (hpos : ∀ x ∈ ns, 0 ≤ x) (ok : BoxOk c bb q) (hm : 0 < m) (hm2 : m < 1000) (hib : i ≠ b)
    (hdp : dp + 10 < recursionLimit)
    (hR : ∀ k t c' bb' q' tc' tb' tq' n' h' tk, 0 ≤ k → k < m → BoxOk c' bb' q' → (∀ x o, x ≠ b → s.heap.get? x = some o → h'.get? x = some o) → h'.get? b = some (listOf [.int c' tc', .int bb' tb', .int q' tq', .ref i].toArray n') →
      R (.ok (.ret (.int k t))) { s with heap := h', toks := tk }) :
    codeAny (model prog w) { handled := none, depth := dp, frames := fr, guards := gd, units := un } (.call (.ref 605) ⟨[.ref b, .int m tm], []⟩) R s := by
  have X0 : (hd.heap_39 w.params).In s.heap := Z.X.keeps Z.keep
  refine' call_but (bs := [(b, listOf [.int c tc, .int bb tb, .int q tq, .ref i].toArray n)]) Z ?hb ?k6 ?k7 ?k8 ?k9 ?kB ?_ ?c2 ?c3 ?c4 ?c5
  case hb =>
    intro q hq
    rcases List.mem_singleton.mp hq with rfl
    exact ⟨hb, hb0⟩
  case k6 => k_is
  case k7 => k_is
  case k8 => show dp < recursionLimit; omega
  case k9 => exact BindsTo.of_eq rfl
  case kB => exact locs rfl
  case c5 => decide
  case c2 => exact rfl
  case c3 => exact rfl
  case c4 => exact rfl
  intro g L' h₁ Z' kg F N X T
  have hlg : g.IsList i vs.toArray := hl.at fun o e => kg _ _ (by simpa using hib) e
  obtain ⟨c0, b0, b1, q0, small⟩ := ok
  k_steps
  all_goals (have hg0 := getD_nonneg hpos q.toNat)
  all_goals (have hx := fm_lo (ns.getD q.toNat 0 * 48271 + 69621 * (-9 + 1 + 20)) (m := 2147483647) (by decide))
  all_goals (have hy := fm_hi (ns.getD q.toNat 0 * 48271 + 69621 * (-9 + 1 + 20)) (m := 2147483647) (by decide))
  all_goals (have hz := fm_lo (c * 48271 + 69621 * (bb + 1 + 20)) (m := 2147483647) (by decide))
  all_goals (have hw := fm_hi (c * 48271 + 69621 * (bb + 1 + 20)) (m := 2147483647) (by decide))
  all_goals (have hu := fd_lo c0 hm)
  all_goals (have hv := fd_lo hg0 hm)
  all_goals (with_unfolding_all refine hR _ _ _ _ _ _ _ _ _ _ _ ?_ ?_ ?_ (fun x o hx e => Fr.keep (by assumption) x o (kg x o (by simpa using hx) e)) (News.get (by assumption) (List.Mem.head _)))
  all_goals first
    | exact fm_lo _ hm
    | exact fm_hi _ hm
    | omega
    | (constructor <;> omega)
    | trace_state
end Mine
end
section
open PySem PySem.W PySem.Calls PyProof.Rows
set_option maxRecDepth 100000
namespace Mine
theorem offG0 : True := by
  w_top off
  trivial
def wpG {α : Type} (M : Model) (A : Around) (t : Sem α) (Q : α → Shared → Prop) (E : Value → Shared → Prop) (s : Shared) : Prop :=
  ∀ Γ p, Γ.In A → goodC Γ.code = true → goodS Γ.below = true → Sem.wp M Γ t (fun a _ s' => Q a s') (fun e _ s' => E e s') p s
def codeG (M : Model) (A : Around) (c : Code) (R : Result → Shared → Prop) (s : Shared) : Prop :=
  ∀ Γ p, Γ.code = c → Γ.Below A → goodS Γ.below = true → wpCode M Γ R p s

section
variable {α β : Type} {M : Model} {A : Around} {E : Value → Shared → Prop} {s : Shared}
theorem wpG_of {t : Sem α} {Q : α → Shared → Prop} (h : wpAny M A t Q E s) : wpG M A t Q E s := fun Γ p hΓ _ _ => h Γ p hΓ
theorem codeG_of {c : Code} {R : Result → Shared → Prop} (h : codeAny M A c R s) : codeG M A c R s := fun Γ p hc hΓ _ => h Γ p hc hΓ
theorem wpG_mono {t : Sem α} {Q Q' : α → Shared → Prop} {E' : Value → Shared → Prop} (h : wpG M A t Q E s)
    (hQ : ∀ a s, Q a s → Q' a s) (hE : ∀ e s, E e s → E' e s) : wpG M A t Q' E' s :=
  fun Γ p hΓ g1 g2 => Sem.wp_mono M Γ t (fun a _ s => hQ a s) (fun e _ s => hE e s) p s (h Γ p hΓ g1 g2)
theorem codeG_mono {c : Code} {R R' : Result → Shared → Prop} (h : codeG M A c R s) (hR : ∀ r s, R r s → R' r s) : codeG M A c R' s :=
  fun Γ p hc hΓ g => wpCode_mono hR (h Γ p hc hΓ g)
theorem wpG_pure {a : α} {Q : α → Shared → Prop} (h : Q a s) : wpG M A (pure a) Q E s := fun _ _ _ _ _ => h
theorem wpG_bind {m : Sem α} {f : α → Sem β} {Q : β → Shared → Prop} (h : wpG M A m (fun a s' => wpG M A (f a) Q E s') E s) : wpG M A (m >>= f) Q E s :=
  fun Γ p hΓ g1 g2 => by
    rw [Sem.wp_bind']
    exact Sem.wp_mono M Γ m (fun a p' s' h' => h' Γ p' hΓ g1 g2) (fun _ _ _ h' => h') p s (h Γ p hΓ g1 g2)
theorem wpG_bindA {m : Sem α} {f : α → Sem β} {Q : β → Shared → Prop} (h : wpAny M A m (fun a s' => wpG M A (f a) Q E s') E s) : wpG M A (m >>= f) Q E s :=
  wpG_bind (wpG_of h)
theorem wpG_holding {vs : List Value} {m : Sem α} {Q : α → Shared → Prop} (h : wpG M A m Q E s) : wpG M A (holding vs m) Q E s :=
  fun Γ p hΓ g1 g2 => by rw [Sem.wp_holding]; exact h Γ p hΓ g1 g2
theorem wpG_keep {vs : List Value} {m : Sem α} {Q : α → Shared → Prop} (h : wpG M A m Q E s) : wpG M A (m.keep vs) Q E s :=
  fun Γ p hΓ g1 g2 => by rw [Sem.wp_keep]; exact h Γ p hΓ g1 g2
theorem wpG_onRaise {m : Sem α} {k : Value → Sem Unit} {Q : α → Shared → Prop}
    (h : wpG M A m Q (fun e s' => wpG M A (k e) (fun _ s'' => E e s'') E s') s) : wpG M A (m.onRaise k) Q E s := fun Γ p hΓ g1 g2 => by
  rw [Sem.wp_onRaise]
  exact Sem.wp_mono M Γ m (fun _ _ _ h' => h') (fun e p' s' h' => h' Γ p' hΓ g1 g2) p s (h Γ p hΓ g1 g2)
theorem wpG_in1 {t : Sem α} {Q : α → Shared → Prop} (h : wpG M A.in1 t Q E s) : wpG M A t Q E s :=
  fun Γ p hΓ => h Γ p ⟨hΓ.1, hΓ.2.1, hΓ.2.2.1, hΓ.2.2.2.1, Nat.le_succ_of_le hΓ.2.2.2.2⟩

theorem goodS_cons {c : Code} {p : Pos} {l : List (Code × Pos)} (h1 : goodC c = true) (h2 : goodS l = true) : goodS ((c, p) :: l) = true := by
  unfold goodS at h2 ⊢
  rw [List.all_cons, h1, h2]; rfl
theorem wpG_runValue {c : Code} {Q : Value → Shared → Prop}
    (hc : codeG M A c (fun r s' => match r with | .ok (.ret v) => Q v s' | .ok _ => False | .error e => E e s') s) :
    wpG M A (runValue c) Q E s := fun Γ p hΓ g1 g2 => by
  rw [Sem.wp_runValue]
  exact hc _ p rfl (hΓ.enter c none p (by intro x; cases x)) (goodS_cons g1 g2)
theorem wpG_call {f : Value} {pos : List Value} {kw : List (Str × Value)} {Q : Value → Shared → Prop}
    (hc : codeG M A (.call f ⟨pos, kw⟩) (fun r s' => match r with | .ok (.ret v) => Q v s' | .ok _ => False | .error e => E e s') s) :
    wpG M A (call f pos kw) Q E s := wpG_runValue hc
theorem codeG_of_tree {c : Code} {R : Result → Shared → Prop} (hg : goodC c = true)
    (h : wpG M (A.under c) (M.den c) (fun fin s' => match fin with | .done f => R (.ok f) s' | .again c' => c'.quiet = true ∧ codeG M A c' R s')
      (fun e s' => R (.error e) s') s) : codeG M A c R s := fun Γ p hc hΓ g => by
  rw [wpCode_iff_wp, hc]
  refine Sem.wp_mono M Γ _ (fun fin p' s' h' => ?_) (fun _ _ _ h' => h') p s (h Γ p (hc ▸ hΓ.in) (by rw [hc]; exact hg) g)
  cases fin with
  | done f => exact h'
  | again c' => exact ⟨h'.1, h'.2 (Γ.goto c') p' rfl (hΓ.goto c') g⟩

theorem exported_false {self : Value} {Q : Bool → Shared → Prop} (h : Q false s) : wpG M A (Builtin.Bytes.exported self) Q E s := fun Γ p _ g1 g2 => by
  show Q (((Γ.code, p) :: Γ.below).any _) s
  rw [List.any_eq_false.mpr]
  · exact h
  · intro x hx
    have hgx : goodC x.1 = true := by
      rcases List.mem_cons.mp hx with rfl | hx
      · exact g1
      · exact List.all_eq_true.mp g2 x hx
    obtain ⟨c, q⟩ := x
    cases c with
    | builtin id args =>
      obtain ⟨pos, kw⟩ := args
      have hb : id ∉ badIds := by simpa [goodC] using hgx
      simp only [badIds, List.mem_append, not_or] at hb
      obtain ⟨hb1, hb2⟩ := hb
      simp only [List.mem_cons, List.not_mem_nil, or_false, not_or] at hb1
      obtain ⟨n1, n2, n3, n4, n5⟩ := hb1
      intro hc
      split at hc
      all_goals first
        | (rename_i e; cases e; first | exact n1 rfl | exact n2 rfl | exact n3 rfl | exact n4 rfl | exact n5 rfl | skip)
        | skip
      all_goals simp_all
    | _ => intro hc; cases hc
end
end Mine
end
section
open PySem PySem.W PySem.Calls PyProof.Rows
set_option maxRecDepth 100000
namespace Mine
theorem offG1 : True := by
  w_top off
  trivial
section
variable {prog : Program} {w : World} {M : Model} {A : Around} {E : Value → Shared → Prop} {s : Shared} {env : Env}

theorem codeG_func {R : Result → Shared → Prop} {body : List Stmt}
    (h : wpG (model prog w) (A.deeper env) (execs body env) (fun f s' => R (.ok (.ret (match f with | .ret v => v | _ => .none))) s') (fun _ _ => False) s) :
    codeG (model prog w) A (.func body env) R s := by
  refine codeG_of_tree rfl ?_
  show wpG _ (A.deeper env) (do point; match ← (execs body env).onRaise (leaving env) with | .ret v => ret v | _ => ret .none) _ _ s
  refine wpG_bindA (wpAny_point (wpG_bind (wpG_onRaise (wpG_mono h (fun f s' h' => ?_) fun _ _ h' => h'.elim))))
  cases f <;> exact wpG_pure h'

theorem codeG_call_function {R : Result → Shared → Prop} {a : Addr} {args : Args} {o : Obj} {fd : FuncData} {body : List Stmt} (hroom : A.depth < recursionLimit)
    (ho : s.heap.get? a = some o)
    (hd' : o.data = .func fd) (hco : fd.scope.isCoroutine = false) (hgen : fd.scope.isGenerator = false) (hbody : fd.body = .stmts body) (hcd : s.heap.CodeRec fd.code fd.qualname)
    (h : wpAny (model prog w) A.in1 (bindArgs fd args) (fun binds s₁ =>
      wpAny (model prog w) A.in1 (newFunctionEnv fd.scope fd.globals fd.closure binds (fd.qualname ++ ".<locals>.") (some a) fd.code none fd.builtins)
        (fun env s₂ => s₂.heap.NoLimit ∧ codeG (model prog w) A (.func body env) R s₂) (fun e s' => R (.error e) s') s₁) (fun e s' => R (.error e) s') s) :
    codeG (model prog w) A (.call (.ref a) args) R s := by
  refine codeG_of_tree rfl (wpG_of ?_)
  show wpAny _ A.in1 (callAny (.ref a) args) _ _ s
  simp only [callAny]
  refine wpAny_bind (wpAny_load ho ?_)
  obtain ⟨c, oc, vs, tq, hc, hoc, hdc, hq⟩ := hcd
  simp only [hd', callFunction, hco, hgen, hbody, hc]
  rw [hc] at h
  refine wpAny_bind (m := field (.ref c) 1) (wpAny_field hoc hdc hq (wpAny_bind (wpAny_pure ?_)))
  exact wpAny_bind (wpAny_mono h (fun binds s₁ h₁ => wpAny_bind (wpAny_mono h₁ (fun env s₂ h₂ => wpAny_bind (wpAny_enterFrame h₂.1 hroom
    (wpAny_pure (And.intro rfl h₂.2)))) fun _ _ h' => h')) fun _ _ h' => h')

theorem call_butG {p : Program} {loose : List Str} {mean : ExcName → Option Value} {mg mb : Str → Option Value} {h₀ : Heap} {bs : List (Addr × Obj)}
    {R : Result → Shared → Prop} {name qual : Str} {params : Arguments} {body : List Stmt} {scope : Scope} {dV kV doc pm cdv ct oc : Value} {an od : Option Addr} {osl : Array (Option Value)} {f : Addr} {args : Args} {binds : List (Str × Value)}
    (Z : Base prog w p loose mean mg mb h₀ s.heap) (hbs : ∀ q ∈ bs, s.heap.get? q.1 = some q.2 ∧ h₀.get? q.1 = none)
    (ho : (hd.heap_39 w.params).lookup f = some ⟨oc, od, .func (fnOf name qual params body scope dV kV doc pm an cdv ct), osl⟩) (hcd : codeIn (hd.heap_39 w.params) cdv qual = true) (hroom : A.depth < recursionLimit)
    (hbind : BindsTo s (fnOf name qual params body scope dV kV doc pm an cdv ct) args binds) (hloc : ∀ y ∈ binds, scope.names.lookup y.1 = some .local)
    (h : ∀ g L' h₁, Base prog w p loose mean mg mb g h₁ → (∀ b o, b ∉ bs.map (·.1) → s.heap.get? b = some o → g.get? b = some o) → Fr g L' h₁ (fun y => binds.reverse.lookup y) → News g L' h₁ bs → (hd.heap_39 w.params).In g → Top p loose mean mg mb g →
      wpG (model prog w) (A.deeper (envOf qual scope L' f cdv)) (execs body (envOf qual scope L' f cdv))
        (fun fl s' => R (.ok (.ret (match fl with | .ret v => v | _ => .none))) s')
        (fun _ _ => False)
        { s with heap := h₁, toks := s.toks + binds.length })
    (hco : scope.isCoroutine = false := by rfl) (hgen : scope.isGenerator = false := by rfl) (hk : scope.kind = .function := by rfl)
    (hcell : ∀ x ∈ scope.names, x.2 ≠ .cell := by decide) : codeG (model prog w) A (.call (.ref f) args) R s := by
  have hlim : s.heap.NoLimit := Z.T.nolimit.keeps Z.keep
  refine codeG_call_function (fd := fnOf name qual params body scope dV kV doc pm an cdv ct) (body := body) hroom (Z.keep _ _ (Z.X _ _ ho)) rfl hco hgen rfl (codeRec_of (Z.X.keeps Z.keep) hcd) (hbind _ _ _ _ ?_)
  refine wpAny_newFunctionEnv hcell hloc (fun h₁ hns hsb => ⟨hlim.fresh _ hsb, codeG_func ?_⟩) hk
  have hk₁ : ∀ b o, s.heap.get? b = some o → h₁.get? b = some o := fun b o e => hsb.extBut b o (Nat.ne_of_lt (Heap.lt_size e)) (Heap.get?_push_of_some _ e)
  have nm : ∀ b o, h₀.get? b = some o → b ∉ bs.map (·.1) := fun b o e q => by
    obtain ⟨p, hp, rfl⟩ := List.mem_map.mp q
    rw [(hbs p hp).2] at e; cases e
  have st : ∀ b o, b ∉ bs.map (·.1) → s.heap.get? b = some o → (hideAll s.heap (bs.map (·.1))).get? b = some o := fun b o hb e => hideAll_get _ e hb
  have st0 : ∀ b o, h₀.get? b = some o → (hideAll s.heap (bs.map (·.1))).get? b = some o := fun b o e => st b o (nm b o e) (Z.keep b o e)
  have kk : ∀ b o, (hideAll s.heap (bs.map (·.1))).get? b = some o → h₁.get? b = some o := fun b o e => hk₁ b o (of_hideAll _ e)
  exact h _ s.heap.objs.size h₁ ⟨kk, Z.X.keeps st0, Z.T.keeps st0⟩ st ⟨hns, kk, Nat.le_of_eq (hideAll_size _ _)⟩
    (fun p hp => ⟨hk₁ _ _ (hbs p hp).1, Nat.ne_of_lt (Heap.lt_size (hbs p hp).1), hideAll_none _ (List.mem_map_of_mem hp)⟩) (Z.X.keeps st0) (Z.T.keeps st0)

theorem wpG_execs_cons {st rest} {Q : Flow → Shared → Prop}
    (h : wpG M A (exec st env) (fun f s' => match f with | .next => wpG M A (execs rest env) Q E s' | f => Q f s') E s) :
    wpG M A (execs (st :: rest) env) Q E s := by
  rw [execs_cons]
  refine wpG_bind (wpG_mono h (fun f s' h' => ?_) fun _ _ h' => h')
  cases f <;> first | exact h' | exact wpG_pure h'
theorem wpG_execs_any {st rest} {Q : Flow → Shared → Prop}
    (h : wpAny M A (exec st env) (fun f s' => match f with | .next => wpG M A (execs rest env) Q E s' | f => Q f s') E s) :
    wpG M A (execs (st :: rest) env) Q E s := wpG_execs_cons (wpG_of h)

theorem wpG_Assign_Name {x pos' value pos} {Q : Flow → Shared → Prop}
    (h : wpG M A (eval value env) (fun v s₁ => wpAny M A (storeName env x v) (fun _ => Q .next) E s₁) E s)
    (hs : swapsWith value (some (.Name x pos')) pos.line env = pure false := by rfl) :
    wpG M A (exec (.Assign [.Name x pos'] value pos) env) Q E s := fun Γ p hΓ g1 g2 => by
  simp only [exec_Assign_Name env x pos' value pos hs, Sem.wp_bind', Sem.wp_cmd_standAt, Sem.wp_bindName, Sem.wp_pure']
  exact Sem.wp_mono M Γ _ (fun v _ s₁ h₁ => h₁ Γ _ hΓ) (fun _ _ _ h' => h') _ _ (h Γ _ hΓ g1 g2)
theorem wpG_Assign_Attribute {o attr pos' value pos} {Q : Flow → Shared → Prop}
    (h : wpG M A (eval value env) (fun v s₁ => wpAny M A (eval o env) (fun ov s₂ => wpAny M A (setAttr ov attr v) (fun _ => Q .next) E s₂) E s₁) E s)
    (hs : swapsWith value (some (.Attribute o attr pos')) pos.line env = pure false := by rfl) :
    wpG M A (exec (.Assign [.Attribute o attr pos'] value pos) env) Q E s := fun Γ p hΓ g1 g2 => by
  simp only [plainObj_exec_Assign_Attribute o attr pos' value pos hs, assign_Attribute, Sem.wp_bind', Sem.wp_holding, Sem.wp_cmd_standAt, Sem.wp_release, Sem.wp_pure']
  exact Sem.wp_mono M Γ _ (fun v p₁ s₁ h₁ => Sem.wp_mono M Γ _ (fun ov _ s₂ h₂ => h₂ Γ _ hΓ) (fun _ _ _ h' => h') _ _ (h₁ Γ p₁ hΓ)) (fun _ _ _ h' => h') _ _ (h Γ _ hΓ g1 g2)
theorem wpG_Return {e pos} {Q : Flow → Shared → Prop} (h : wpG M A (eval e env) (fun v => Q (.ret v)) E s) :
    wpG M A (exec (.Return (some e) pos) env) Q E s := fun Γ p hΓ g1 g2 => by
  simp only [exec_Return_some, Sem.wp_bind', Sem.wp_cmd_standAt, Sem.wp_pure']; exact h Γ _ hΓ g1 g2
theorem wpG_IfExp {test body orelse pos} {Q : Value → Shared → Prop}
    (h : wpAny M A (isTrue test env (eval test env)) (fun c s₂ => if c then wpG M A (eval body env) Q E s₂ else wpG M A (eval orelse env) Q E s₂) E s) :
    wpG M A (eval (.IfExp test body orelse pos) env) Q E s := by
  rw [eval_IfExp]
  refine wpG_bindA (wpAny_mono h (fun c s₂ h₂ => ?_) fun _ _ x => x)
  cases c <;> exact h₂
theorem wpG_Call_Name {id : Str} {p pos : Pos} {args : List Expr} {Q : Value → Shared → Prop}
    (h : wpAny M A (eval (.Name id p) env) (fun f s₁ => wpG M A (callWith pos f [] (backTo pos (starEach args env)) []) Q E s₁) E s) :
    wpG M A (eval (.Call (.Name id p) args [] pos) env) Q E s := by
  show wpG M A (do callWith pos (← eval (.Name id p) env) [] (backTo pos (starEach args env)) (backToKw pos (keywordEach [] env))) Q E s
  exact wpG_bindA h
theorem callWithG_of {pos : Pos} {f : Value} {first : List Value} {Q : Value → Shared → Prop} {P : Heap → Prop} {x : Sem Value}
    (hk : ∀ h, P h → ∃ k, (k = Keeper.frame ∨ k = Keeper.machine ∨ k = Keeper.boundFrame) ∧ Looks M h (keeperOf f) k)
    (h : wpAny M A x (fun v s₁ => P s₁.heap ∧ wpG M A (call f (first ++ [v])) Q E s₁) E s) : wpG M A (callWith pos f first [(false, x)] []) Q E s := by
  have ha : wpAny M A (evalArgs f true [(false, x)] []) (fun a s₁ => P s₁.heap ∧ wpG M A (call f (first ++ a.pos) a.kw) Q E s₁) E s :=
    evalArgs_plain (spliced_cons (wpAny_mono h (fun _ _ z => spliced_nil z) fun _ _ z => z))
  unfold callWith
  refine wpG_bindA (wpAny_holding (wpAny_mono ha (fun a s₁ h₁ => ?_) fun _ _ x => x))
  refine wpG_bindA (wpAny_standAt ?_)
  obtain ⟨k, hk', L⟩ := hk _ h₁.1
  refine wpG_bindA (L.here ?_)
  have tail : ∀ {t : Sem Value}, wpG M A t Q E s₁ → wpG M A (t >>= fun r => holding [r] point >>= fun _ => pure r) Q E s₁ :=
    fun ht => wpG_bind (wpG_mono ht (fun r s₂ hr => wpG_bindA (wpAny_holding (wpAny_point (wpG_pure hr)))) fun _ _ x => x)
  have marked (mk : Value) : wpG M A (callMarked mk f (first ++ a.pos) a.kw) Q E s₁ := by unfold callMarked; exact wpG_keep h₁.2
  rcases hk' with rfl | rfl | rfl
  · show wpG M A (callMarked plainCall f (first ++ a.pos) a.kw >>= _) Q E s₁
    exact tail (marked _)
  · show wpG M A (call f (first ++ a.pos) a.kw >>= _) Q E s₁
    exact tail h₁.2
  · show wpG M A (callMarked callOfAMethodObject f (first ++ a.pos) a.kw >>= _) Q E s₁
    exact tail (marked _)
theorem callWithG_K {pos : Pos} {f : Value} {first : List Value} {Q : Value → Shared → Prop} {K : Frag} {e : Expr} (hk : keepIn K f = true)
    (h : wpAny M A (eval e env) (fun v s₁ => K.In s₁.heap ∧ wpG M A (call f (first ++ [v])) Q E s₁) E s)
    (he : starEach [e] env = [(false, eval e env)] := by rfl) : wpG M A (callWith pos f first (backTo pos (starEach [e] env)) []) Q E s := by
  rw [he]
  exact callWithG_of (P := fun h => K.In h) (fun h X => keeps_K hk h X) h
end
end Mine
end
section
open PySem PySem.W PySem.Calls PyProof.Rows
set_option maxRecDepth 100000
namespace Mine
theorem offB0 : True := by
  w_top off
  trivial
theorem ba_mro : mroOf (.type "bytearray") = pure [.type "bytearray", .type "object"] := by rw [mroOf_type]; kernel_rfl
theorem ba_lookup_new : typeLookup (.type "bytearray") "__new__" = pure (some (.builtin "bytearray.__new__")) := by rw [typeLookup_type, builtinLookup_eq_fast]; kernel_rfl
theorem ba_slot_init : Slot "bytearray" "__init__" "bytearray.__init__" :=
  .of (owner := "bytearray") (n := "__init__") (by rw [typeLookup_type, builtinLookup_eq_fast]; kernel_rfl) (by decide +kernel) (by decide +kernel) (by decide +kernel)
    (by first | exact .inl (by decide +kernel) | exact .inr (by decide +kernel)) (by rw [isSubtype_type]; kernel_rfl)
theorem ba_called : TypeCalled "bytearray" "bytearray.__new__" "bytearray.__init__" :=
  ⟨by decide +kernel, by decide +kernel, ⟨_, _, ba_mro⟩, madeBy_type ba_mro ba_lookup_new (by decide +kernel), by decide +kernel, by rw [isSubtype_type]; kernel_rfl, ba_slot_init⟩
theorem ba_typeCall (a : Value) : checkTypeCall "bytearray" ⟨[a], []⟩ = pure () := by kernel_rfl
theorem ba_newCall (a : Value) : checkBuiltinCall "bytearray.__new__" ⟨[.type "bytearray", a], []⟩ = pure () := by kernel_rfl
theorem ba_plain_new : plainId "bytearray.__new__" = true := by decide +kernel
theorem ba_plain_init : plainId "bytearray.__init__" = true := by decide +kernel
theorem ba_entry_new : entryFor table "bytearray.__new__" = some Builtin.«list.__new__» := entryFor_alias (id' := "list.__new__") (by rw [fastTable_eq_tree]; kernel_rfl) (by first | rfl | decide +kernel) (by decide +kernel) (by rw [fastTable_eq_tree]; kernel_rfl)
theorem ba_entry_init : entryFor table "bytearray.__init__" = some Builtin.«bytearray.__init__» := entryFor_of_tree (by kernel_rfl)
theorem ba_sub : isSubtype (.type "bytearray") (.type "bytearray") = pure true := by rw [isSubtype_type]; kernel_rfl
theorem ba_release : typeLookup (.type "bytearray") "__release_buffer__" = pure (some (.builtin "bytearray.__release_buffer__")) := by rw [typeLookup_type, builtinLookup_eq_fast]; kernel_rfl
theorem ba_buffer : typeLookup (.type "bytearray") "__buffer__" = pure (some (.builtin "bytearray.__buffer__")) := by rw [typeLookup_type, builtinLookup_eq_fast]; kernel_rfl
theorem by_release : typeLookup (.type "bytes") "__release_buffer__" = pure none := by rw [typeLookup_type, builtinLookup_eq_fast]; kernel_rfl
theorem by_index : typeLookup (.type "bytes") "__index__" = pure none := by rw [typeLookup_type, builtinLookup_eq_fast]; kernel_rfl
theorem by_buffer : typeLookup (.type "bytes") "__buffer__" = pure (some (.builtin "bytes.__buffer__")) := by rw [typeLookup_type, builtinLookup_eq_fast]; kernel_rfl
theorem by_sub : isSubtype (.type "bytes") (.type "bytes") = pure true := by rw [isSubtype_type]; kernel_rfl
theorem ba_bind (v : Value) : Builtin.Bytes.bindOptional "bytearray.__init__" "bytearray" ["source", "encoding", "errors"] [v] [] = pure [some v, none, none] := by kernel_rfl
theorem ba_args (a : Value) (b : Value) : argsOk "bytearray.__init__" ⟨[a, b], []⟩ := by unfold argsOk; kernel_rfl
set_option maxRecDepth 1000000 in
set_option maxHeartbeats 4000000 in
theorem ba_owner : ("bytearray.__new__".splitOn ".__new__").headD "" = "bytearray" := by simp +decide [String.splitOn, String.splitOnAux]

section
variable {prog : Program} {w : World} {A : Around} {E : Value → Shared → Prop} {s : Shared}
theorem code_ba_new (a : Value) {Q₁ : Value → Shared → Prop}
    (h : Q₁ (.ref s.heap.objs.size) { s with heap := s.heap.push { cls := .type "bytearray", data := .bytearray #[] } }) :
    codeAny (model prog w) A (.call (.builtin "bytearray.__new__") ⟨[.type "bytearray", a], []⟩) (wants Q₁ E) s := by
  refine codeAny_of_tree ?_
  show wpAny _ A.in1 (do checkBuiltinCall "bytearray.__new__" ⟨[.type "bytearray", a], []⟩; again (.builtin "bytearray.__new__" ⟨[.type "bytearray", a], []⟩)) _ _ s
  refine wpAny_bind (wpAny_of_eq (ba_newCall a) (wpAny_pure ⟨plainId_quiet ba_plain_new _, codeAny_builtin_stack ba_entry_new rfl fun p st => ?_⟩))
  rw [Around.under_plainId ba_plain_new _]
  have hsub := ba_sub
  have hown := ba_owner
  obtain ⟨hp, g, d, tk, os⟩ := s
  simp only [hown]
  wp_walk
  exact h

/-- an object's own release hook is none of its own -/
theorem ba_ownRelease {y : Addr} {Q : Bool → Shared → Prop} (hT : s.TypeIs (.ref y) "bytearray") (h : Q false s) : wpAny (model prog w) A (Builtin.Bytes.ownRelease (.ref y)) Q E s := by
  unfold Builtin.Bytes.ownRelease Builtin.Bytes.slotIsOwn
  refine wpAny_bind (wpAny_bind (wpAny_specialOf hT ba_release ?_))
  dsimp only
  refine bm_if_false (by decide +kernel) ?_
  rw [show ((("bytearray.__release_buffer__" : String).dropRight ("__release_buffer__".length + 1))) = "bytearray" from by decide +kernel]
  exact wpAny_isInstance (b := true) hT ba_sub (wpAny_pure h)
theorem by_ownRelease {b : Array UInt8} {t : Tok} {Q : Bool → Shared → Prop} (h : Q false s) : wpAny (model prog w) A (Builtin.Bytes.ownRelease (.bytes b t)) Q E s := by
  unfold Builtin.Bytes.ownRelease Builtin.Bytes.slotIsOwn
  refine wpAny_bind (wpAny_bind (wpAny_specialOf (typeIs_bytes _ _ _) by_release ?_))
  dsimp only
  exact wpAny_pure (wpAny_pure h)

theorem by_bufferQ {id : String} {b : Array UInt8} {t : Tok} {full : Bool} {Q : Option (Array UInt8) → Shared → Prop} (h : Q (some b) s) : wpAny (model prog w) A (Builtin.Bytes.buffer? id (.bytes b t) full) Q E s := by
  unfold Builtin.Bytes.buffer?
  refine wpAny_bind (wpAny_specialOf (typeIs_bytes _ _ _) by_buffer ?_)
  dsimp only
  unfold Builtin.Bytes.slotIsOwn
  refine wpAny_bind (wpAny_bind ?_)
  refine wpAny_specialOf (typeIs_bytes _ _ _) by_buffer ?_
  dsimp only
  refine bm_if_false (by decide +kernel) ?_
  rw [show ((("bytes.__buffer__" : String).dropRight ("__buffer__".length + 1))) = "bytes" from by decide +kernel]
  refine wpAny_isInstance (b := true) (typeIs_bytes _ _ _) by_sub ?_
  refine bm_if_false rfl ?_
  refine wpAny_bind (wpAny_specialOf (typeIs_bytes _ _ _) by_buffer ?_)
  show wpAny _ _ (Builtin.Bytes.ownRelease (Value.bytes b t) >>= _) _ _ _
  refine wpAny_bind (by_ownRelease ?_)
  refine bm_if_false rfl ?_
  refine wpAny_bind (wpAny_bind (wpAny_pure (wpAny_pure (wpAny_pure h))))

theorem ba_write {y : Addr} {f : Array UInt8 → Array UInt8} {a : Array UInt8} {Q : Unit → Shared → Prop} (hy : s.heap.get? y = some { cls := .type "bytearray", data := .bytearray a }) (hz : (f a).size ≤ sizeLine)
    (h : Q () { s with heap := s.heap.update y (Obj.mapBytearray f) }) : wpAny (model prog w) A (Builtin.Bytes.write (.ref y) f) Q E s := by
  show wpAny _ _ (updateBytearray y f) _ _ _
  unfold updateBytearray
  refine wpAny_bind (wpAny_load hy ?_)
  show wpAny _ _ (update y (Obj.mapBytearray f) >>= fun _ => lookBehind y) _ _ _
  refine wpAny_bind (wpAny_update hy ?_)
  have h2 : (s.heap.update y (Obj.mapBytearray f)).get? y = some { cls := .type "bytearray", data := .bytearray (f a) } := Heap.get?_update_self (Obj.mapBytearray f) hy rfl
  refine wpAny_lookBehind h2 ?_ h
  show (if (f a).size > sizeLine then some "bytearray:memory" else none) = none
  rw [if_neg (by omega)]

theorem ba_init {A' : Around} {y : Addr} {b : Array UInt8} {t : Tok} {R : Result → Shared → Prop} (hy : s.heap.get? y = some { cls := .type "bytearray", data := .bytearray #[] }) (hz : b.size ≤ sizeLine)
    (h : ∀ h', (∀ a o, a ≠ y → s.heap.get? a = some o → h'.get? a = some o) → h'.get? y = some { cls := .type "bytearray", data := .bytearray b } → R (.ok (.ret .none)) { s with heap := h' }) :
    wpG (model prog w) A (Builtin.«bytearray.__init__» ⟨[.ref y, .bytes b t], []⟩) (fun fin s' => match fin with | .done f => R (.ok f) s' | .again c' => c'.quiet = true ∧ codeG (model prog w) A' c' R s') (fun e s' => R (.error e) s') s := by
  have hT : s.TypeIs (.ref y) "bytearray" := ⟨_, hy, rfl⟩
  unfold Builtin.«bytearray.__init__»
  refine wpG_bindA (ba_ownRelease hT ?_)
  show wpG _ _ (Builtin.Bytes.bindOptional "bytearray.__init__" "bytearray" ["source", "encoding", "errors"] [.bytes b t] [] >>= _) _ _ _
  rw [ba_bind]
  refine wpG_bindA (wpAny_pure ?_)
  refine wpG_bindA (m := Builtin.Bytes.checkCodecArg _ _ _ none) (wpAny_pure ?_)
  refine wpG_bindA (m := Builtin.Bytes.checkCodecArg _ _ _ none) (wpAny_pure ?_)
  refine wpG_bind ?_
  show wpG _ _ (Builtin.Bytes.exported (Value.ref y) >>= _) _ _ _
  refine wpG_bind (exported_false ?_)
  show wpG _ _ (Builtin.Bytes.exportsOf (Value.ref y) >>= _) _ _ _
  refine wpG_bindA ?_
  show wpAny _ _ (load y >>= _) _ _ _
  refine wpAny_bind (wpAny_load hy ?_)
  refine wpAny_pure (wpG_pure ?_)
  show wpG _ _ (Builtin.Bytes.write (Value.ref y) (fun _ => #[]) >>= _) _ _ _
  refine wpG_bindA (ba_write hy (Nat.zero_le _) ?_)
  have hy2 : (s.heap.update y (Obj.mapBytearray fun _ => #[])).get? y = some { cls := .type "bytearray", data := .bytearray #[] } := Heap.get?_update_self (Obj.mapBytearray fun _ => #[]) hy rfl
  refine wpG_of ?_
  refine wpAny_bind (m := asStr? (.bytes b t)) ?_
  show wpAny _ _ (notAStandIn (.bytes b t) >>= _) _ _ _
  refine wpAny_bind (wpAny_pure (wpAny_pure ?_))
  refine wpAny_bind (wpAny_pure (a := ()) ?_)
  refine wpAny_bind (wpAny_specialOf (typeIs_bytes _ _ _) by_index ?_)
  refine wpAny_bind (by_bufferQ ?_)
  refine wpAny_bind (wpAny_rule ?_)
  refine wpAny_bind (ba_write hy2 hz ?_)
  refine wpAny_pure ?_
  refine h _ (fun a o ha e => ?_) ?_
  · exact (Heap.get?_update_ne _ _ _ _ ha).trans ((Heap.get?_update_ne _ _ _ _ ha).trans e)
  · exact Heap.get?_update_self (Obj.mapBytearray fun _ => b) hy2 rfl
end
end Mine
end
section
open PySem PySem.W PySem.Calls PyProof.Rows
set_option maxRecDepth 100000
namespace Mine
theorem offB1 : True := by
  w_top off
  trivial
section
variable {prog : Program} {w : World} {A : Around} {E : Value → Shared → Prop} {s : Shared}
theorem wpG_of_eq {α : Type} {M : Model} {t : Sem α} {a : α} {Q : α → Shared → Prop} (e : t = pure a) (h : Q a s) : wpG M A t Q E s := by subst e; exact wpG_pure h
theorem wpG_if_false {α : Type} {M : Model} {c : Bool} {a b : Sem α} {Q : α → Shared → Prop} (hc : c = false) (h : wpG M A b Q E s) : wpG M A (if c = true then a else b) Q E s := by
  subst hc
  exact h
theorem codeG_builtin {id : String} {args : Args} {b : Builtin} {R : Result → Shared → Prop} (hg : goodC (.builtin id args) = true) (hb : entryFor table id = some b)
    (h : wpG (model prog w) (A.under (.builtin id args)) (b args)
      (fun fin s' => match fin with | .done f => R (.ok f) s' | .again c' => c'.quiet = true ∧ codeG (model prog w) A c' R s') (fun e s' => R (.error e) s') s) :
    codeG (model prog w) A (.builtin id args) R s := by
  refine codeG_of_tree hg ?_
  show wpG _ _ (match entryFor table id with | some b => b args | none => unsupported ((withoutEnding? id "#data").getD id)) _ _ s
  rw [hb]; exact h
/-- a builtin called by its name -/
theorem codeG_call_builtin {id : String} {args : Args} {b : Builtin} {R : Result → Shared → Prop} (hq : plainId id = true) (hg : goodC (.builtin id args) = true) (hb : entryFor table id = some b)
    (h : wpAny (model prog w) A.in1 (checkBuiltinCall id args) (fun _ s₁ => wpG (model prog w) A.in1 (b args)
      (fun fin s' => match fin with | .done f => R (.ok f) s' | .again c' => c'.quiet = true ∧ codeG (model prog w) A c' R s') (fun e s' => R (.error e) s') s₁)
      (fun e s' => R (.error e) s') s) : codeG (model prog w) A (.call (.builtin id) args) R s := by
  refine codeG_of_tree rfl (wpG_of ?_)
  show wpAny _ A.in1 (do checkBuiltinCall id args; again (.builtin id args)) _ _ s
  refine wpAny_bind (wpAny_mono h (fun _ s₁ h₁ => wpAny_pure ⟨plainId_quiet hq _, codeG_builtin hg hb (by rw [Around.under_plainId hq _]; exact h₁)⟩) fun _ _ x => x)

theorem ba_initG {y : Addr} {b : Array UInt8} {t : Tok} {R : Result → Shared → Prop} (hy : s.heap.get? y = some { cls := .type "bytearray", data := .bytearray #[] }) (hz : b.size ≤ sizeLine)
    (h : ∀ h', (∀ a o, a ≠ y → s.heap.get? a = some o → h'.get? a = some o) → h'.get? y = some { cls := .type "bytearray", data := .bytearray b } → R (.ok (.ret .none)) { s with heap := h' }) :
    codeG (model prog w) A (.call (.builtin "bytearray.__init__") ⟨[.ref y, .bytes b t], []⟩) R s := by
  have hT : s.TypeIs (.ref y) "bytearray" := ⟨_, hy, rfl⟩
  exact codeG_call_builtin ba_plain_init (by show (!badIds.contains "bytearray.__init__") = true; decide +kernel) ba_entry_init (ba_slot_init.check _ _ _ _ _ _ _ _ hT (ba_args _ _) (ba_init hy hz h))

theorem call_bytearrayG {b : Array UInt8} {t : Tok} {Q : Value → Shared → Prop} (hz : b.size ≤ sizeLine)
    (h : ∀ h', (∀ a o, s.heap.get? a = some o → h'.get? a = some o) → h'.get? s.heap.objs.size = some { cls := .type "bytearray", data := .bytearray b } → Q (.ref s.heap.objs.size) { s with heap := h' }) :
    wpG (model prog w) A (call (.type "bytearray") [.bytes b t]) Q E s := by
  refine wpG_call (codeG_of_tree rfl ?_)
  show wpG _ _ (callAny (.type "bytearray") _) _ _ _
  refine wpG_pure ⟨Code.quiet_builtin _ (by decide +kernel), codeG_builtin (by show (!badIds.contains "type.__call__") = true; decide +kernel) F.entry_type_call ?_⟩
  rw [Around.under_plain (weight_type_call_type "bytearray" [.bytes b t] []) rfl]
  unfold Builtin.«type.__call__»
  dsimp only
  refine wpG_if_false ba_called.notType ?_
  refine wpG_if_false ba_called.canCreate ?_
  refine wpG_bindA (wpAny_of_eq (ba_typeCall _) ?_)
  refine wpG_bindA (wpAny_of_eq ba_mro ?_)
  refine wpG_if_false rfl ?_
  refine wpG_bindA (wpAny_of_eq ba_called.made ?_)
  dsimp only
  refine wpG_bindA (wpAny_pure ?_)
  refine wpG_bindA (wpAny_holding (wpAny_call (code_ba_new _ ?_)))
  have hy : (s.heap.push { cls := .type "bytearray", data := .bytearray #[] }).get? s.heap.objs.size = some { cls := .type "bytearray", data := .bytearray #[] } := Heap.get?_push_size _ rfl
  have hT : ({ s with heap := s.heap.push { cls := .type "bytearray", data := .bytearray #[] } } : Shared).TypeIs (.ref s.heap.objs.size) "bytearray" := ⟨_, hy, rfl⟩
  refine wpG_bindA (wpAny_isInstance (b := true) hT ba_sub ?_)
  refine wpG_if_false rfl ?_
  refine wpG_bind (wpG_holding ?_)
  unfold callSpecial?
  refine wpG_bindA (wpAny_specialOf hT ba_slot_init.lookup ?_)
  refine wpG_holding ?_
  refine wpG_bindA (wpAny_of_eq (ba_slot_init.bind _) ?_)
  refine wpG_bind (wpG_call ?_)
  refine ba_initG (s := { s with heap := s.heap.push { cls := .type "bytearray", data := .bytearray #[] } }) hy hz fun h' hk hy' => ?_
  refine wpG_pure ?_
  dsimp only
  refine wpG_if_false rfl ?_
  refine wpG_pure ?_
  exact h h' (fun a o e => hk a o (Nat.ne_of_lt (Heap.lt_size e)) (Heap.get?_push_of_some _ e)) hy'
end
end Mine
end
section
open PySem PySem.W PySem.Calls PyProof.Rows
set_option maxRecDepth 100000
set_option maxHeartbeats 4000000
namespace Mine
theorem offB2 : True := by
  w_top off
  trivial
theorem fragOnB2 : (fun (_ : OpenLaw) (_ : Params → Frag) => True) PySem.Challenge.rw_ez0261_01 hd.heap_39 := by
  k_fill
  trivial
theorem fr_ext {h₀ h h' : Heap} {L : Addr} {m : Str → Option Value} (F : Fr h₀ L h m) (k : ∀ a o, h.get? a = some o → h'.get? a = some o) : Fr h₀ L h' m := ⟨F.ns.keeps k, fun b o e => k _ _ (F.keep b o e), F.above⟩
theorem news_ext {h₀ h h' : Heap} {L : Addr} {news : List (Addr × Obj)} (N : News h₀ L h news) (k : ∀ a o, h.get? a = some o → h'.get? a = some o) : News h₀ L h' news := fun p hp => ⟨k _ _ (N p hp).1, (N p hp).2⟩
theorem news_new {h₀ h h' : Heap} {L : Addr} {m : Str → Option Value} {news : List (Addr × Obj)} {o : Obj} (F : Fr h₀ L h m) (N : News h₀ L h news) (k : ∀ a o, h.get? a = some o → h'.get? a = some o) (hy : h'.get? h.objs.size = some o) :
    News h₀ L h' ((h.objs.size, o) :: news) := by
  intro p hp
  rcases List.mem_cons.mp hp with rfl | hp
  · refine ⟨hy, fun e => ?_, ?_⟩
    · have := F.ns.lt
      rw [← e] at this
      exact absurd this (Nat.lt_irrefl _)
    · cases q : h₀.get? h.objs.size with
      | none => rfl
      | some o' => exact absurd (Heap.lt_size (F.keep _ _ q)) (Nat.lt_irrefl _)
  · exact news_ext N k p hp
abbrev streamDict (w : World) (y : Addr) (q : Int) (t1 t2 tq : Tok) : Obj :=
  dictOf [⟨PyData.keyHash w.params (PySem.Str.ofString "_BytesIO__buf"), .str (PySem.Str.ofString "_BytesIO__buf") t1, .ref y⟩, ⟨PyData.keyHash w.params (PySem.Str.ofString "_BytesIO__pos"), .str (PySem.Str.ofString "_BytesIO__pos") t2, .int q tq⟩] 2
abbrev baOf (b : Array UInt8) : Obj := { cls := .type "bytearray", data := .bytearray b }
theorem ba_K {prog : Program} {w : World} {A : Around} {E : Value → Shared → Prop} {s : Shared} {h₀ : Heap} {L : Addr} {m : Str → Option Value} {news : List (Addr × Obj)} {b : Array UInt8} {t : Tok} {Q : Value → Shared → Prop}
    (F : Fr h₀ L s.heap m) (N : News h₀ L s.heap news) (hz : b.size ≤ sizeLine)
    (h : ∀ y h', Fr h₀ L h' m → News h₀ L h' ((y, baOf b) :: news) → (∀ p ∈ news, p.1 < y) → Q (.ref y) { s with heap := h' }) :
    wpG (model prog w) A (call (.type "bytearray") [.bytes b t]) Q E s :=
  call_bytearrayG hz fun h' k hy => h _ h' (fr_ext F k) (news_new F N k hy) fun p hp => Heap.lt_size (N p hp).1
theorem callWithG_type {M : Model} {A : Around} {E : Value → Shared → Prop} {s : Shared} {env : Env} {pos : Pos} {T : String} {first : List Value} {Q : Value → Shared → Prop} {e : Expr}
    (h : wpAny M A (eval e env) (fun v s₁ => wpG M A (call (.type T) (first ++ [v])) Q E s₁) E s)
    (he : starEach [e] env = [(false, eval e env)] := by rfl) : wpG M A (callWith pos (.type T) first (backTo pos (starEach [e] env)) []) Q E s := by
  rw [he]
  exact callWithG_of (P := fun _ => True) (fun _ _ => ⟨.machine, .inr (.inl rfl), Looks.of_pure rfl⟩) (wpAny_mono h (fun _ _ z => ⟨trivial, z⟩) fun _ _ z => z)

local macro_rules | `(tactic| walk_at "call type:type") => `(tactic| ((with_reducible show wpAny _ _ (call _ [Value.bytes _ _]) _ _ _); refine call_type_of (Tx := "bytes") (typeIs_bytes _ _ _) (by decide +kernel) ?_))
section
variable {prog : Program} {w : World} {A : Around} {E : Value → Shared → Prop} {s : Shared} {p : Program} {loose : List Str} {mean : ExcName → Option Value} {mg mb : Str → Option Value} {h₀ : Heap} {dp un : Nat} {gd : Option (List Code)} {fr : Option (List Env)}
theorem init_specG {R : Result → Shared → Prop} {x dx : Addr} {b : Array UInt8} {t : Tok} (Z : Base prog w p loose mean mg mb h₀ s.heap)
    (hx : s.heap.get? x = some (instObj 322 dx)) (hdx : s.heap.get? dx = some (dictOf [] 0)) (hx0 : h₀.get? x = none) (hdx0 : h₀.get? dx = none) (hne : @Ne Nat x dx) (hz : b.size ≤ sizeLine)
    (hdp : dp + 10 < recursionLimit)
    (hR : ∀ h' tk (y : Addr) t1 t2 tq, (∀ a o, a ≠ dx → s.heap.get? a = some o → h'.get? a = some o) → h'.get? dx = some (streamDict w y 0 t1 t2 tq) → h'.get? y = some (baOf b) → s.heap.get? y = none → R (.ok (.ret .none)) { s with heap := h', toks := tk }) :
    codeG (model prog w) { handled := none, depth := dp, frames := fr, guards := gd, units := un } (.call (.ref 109) ⟨[.ref x, .bytes b t], []⟩) R s := by
  have X0 : (hd.heap_39 w.params).In s.heap := Z.X.keeps Z.keep
  refine' call_butG (bs := [(x, instObj 322 dx), (dx, dictOf [] 0)]) Z ?hb ?k6 ?k7 ?k8 ?k9 ?kB ?_ ?c2 ?c3 ?c4 ?c5
  case k6 => k_is
  case k7 => k_is
  case k8 => show dp < recursionLimit; omega
  case k9 => first | exact BindsTo.of_eq rfl | exact binds_K X0 rfl (by k_is) rfl rfl rfl
  case kB => exact locs rfl
  case c5 => decide
  case c2 => exact rfl
  case c3 => exact rfl
  case c4 => exact rfl
  · intro q hq
    rcases List.mem_cons.mp hq with rfl | hq
    · exact ⟨hx, hx0⟩
    · rcases List.mem_singleton.mp hq with rfl
      exact ⟨hdx, hdx0⟩
  intro g L' h₁ Z' kg F N X T
  refine wpG_execs_any ?_
  k_steps
  dsimp only
  refine wpG_execs_cons (wpG_Assign_Attribute ?_)
  refine wpG_IfExp ?_
  k_steps
  dsimp only
  refine wpG_Call_Name ?_
  walk1
  refine callWithG_type ?_
  walk1
  dsimp only [List.nil_append]
  refine ba_K (by assumption) (by assumption) hz fun y h2 F2 N2 l2 => ?_
  k_lt l2
  dsimp only
  k_steps
  refine wpG_of ?_
  k_steps
  rename Fr _ _ _ _ => F9
  rename News _ _ _ _ => N9
  with_unfolding_all refine hR _ _ y _ _ _ (fun a o ha e => ?_) (News.get N9 (by k_mem)) (News.get N9 (by k_mem)) ?_
  · by_cases hax : a = x
    · subst hax
      rw [hx] at e
      rw [← e]
      exact News.get N9 (by k_mem)
    · exact F9.keep a o (kg a o (by simp only [List.map_cons, List.map_nil, List.mem_cons, List.not_mem_nil, or_false, not_or]; exact ⟨hax, ha⟩) e)
  · cases e : s.heap.get? y with
    | none => rfl
    | some o =>
      have hg := (N9 (y, baOf b) (by k_mem)).2.2
      rw [kg y o (by simp only [List.map_cons, List.map_nil, List.mem_cons, List.not_mem_nil, or_false, not_or]; exact ⟨fun (q : @Eq Nat y x) => by omega, fun (q : @Eq Nat y dx) => by omega⟩) e] at hg
      cases hg
end
end Mine
end
section
open PySem PySem.W PySem.Calls PyProof.Rows
set_option maxRecDepth 100000
set_option maxHeartbeats 4000000
namespace Mine
theorem offB3 : True := by
  w_top off
  trivial
theorem pk_madeBy (P : Params) (S : Setting) : peek (hd.heap_39 P) S (Bind.madeBy (.ref 322)) = some none := by kernel_rfl
theorem pk_base (P : Params) (S : Setting) : peek (hd.heap_39 P) S (Bind.staticBase (.ref 322)) = some (.type "object") := by kernel_rfl
theorem pk_isType (P : Params) (S : Setting) : peek (hd.heap_39 P) S (isType (.ref 322)) = some true := by kernel_rfl
theorem pk_sub (P : Params) (S : Setting) : peek (hd.heap_39 P) S (isSubtype (.ref 322) (.type "object")) = some true := by kernel_rfl
theorem pk_self (P : Params) (S : Setting) : peek (hd.heap_39 P) S (isSubtype (.ref 322) (.ref 322)) = some true := by kernel_rfl
theorem pk_call (P : Params) (S : Setting) : peek (hd.heap_39 P) S (specialOf (.ref 322) "__call__") = some (some (.builtin "type.__call__")) := by kernel_rfl
theorem pk_inst (P : Params) (S : Setting) : peek (hd.heap_39 P) S (isInstance (.ref 322) (.type "type")) = some true := by kernel_rfl
theorem pk_mro (P : Params) (S : Setting) : peek (hd.heap_39 P) S (mroOf (.ref 322)) = some [.ref 322, .ref 80, .ref 65, .type "object"] := by kernel_rfl
theorem pk_here (P : Params) (S : Setting) : peek (hd.heap_39 P) S (Bind.madeHere "object.__new__" (.ref 322)) = some () := by kernel_rfl
theorem pk_initf (P : Params) (S : Setting) : peek (hd.heap_39 P) S (typeLookup (.ref 322) "__init__") = some (some (.ref 109)) := by kernel_rfl
theorem pk_check (P : Params) (S : Setting) : peek (hd.heap_39 P) S (checkBuiltinCall "object.__new__" ⟨[.ref 322], []⟩) = some () := by kernel_rfl
end Mine
end
section
open PySem PySem.W PySem.Calls PyProof.Rows
set_option maxRecDepth 100000
set_option maxHeartbeats 4000000
namespace Mine
theorem offB4 : True := by
  w_top off
  trivial
theorem fragOn4 : (fun (_ : OpenLaw) (_ : Params → Frag) => True) PySem.Challenge.rw_ez0261_01 hd.heap_39 := by
  k_fill
  trivial
section
variable {prog : Program} {w : World} {A : Around} {E : Value → Shared → Prop} {s : Shared} {p : Program} {loose : List Str} {mean : ExcName → Option Value} {mg mb : Str → Option Value} {h₀ : Heap} {dp un : Nat} {gd : Option (List Code)} {fr : Option (List Env)}

/-- a def entered whose binding makes objects of its own -/
theorem call_made {R : Result → Shared → Prop} {name qual : Str} {params : Arguments} {body : List Stmt} {scope : Scope} {dV kV doc pm cdv ct oc : Value} {an od : Option Addr} {osl : Array (Option Value)} {f : Addr} {args : Args} {PB : List (Str × Value) → Prop}
    (Z : Base prog w p loose mean mg mb h₀ s.heap)
    (ho : (hd.heap_39 w.params).lookup f = some ⟨oc, od, .func (fnOf name qual params body scope dV kV doc pm an cdv ct), osl⟩) (hcd : codeIn (hd.heap_39 w.params) cdv qual = true) (hroom : A.depth < recursionLimit)
    (hbind : ∀ (A : Around) (E : Value → Shared → Prop) (Q : List (Str × Value) → Shared → Prop), (∀ binds h', PB binds → (∀ a o, s.heap.get? a = some o → h'.get? a = some o) → s.heap.objs.size ≤ h'.objs.size → Q binds { s with heap := h' }) →
      wpAny (model prog w) A (bindArgs (fnOf name qual params body scope dV kV doc pm an cdv ct) args) Q E s) (hloc : ∀ binds, PB binds → ∀ y ∈ binds, scope.names.lookup y.1 = some .local)
    (h : ∀ binds L' h₁ tk, PB binds → Fr s.heap L' h₁ (fun y => binds.reverse.lookup y) → (hd.heap_39 w.params).In s.heap → Top p loose mean mg mb s.heap →
      wpAny (model prog w) (A.deeper (envOf qual scope L' f cdv)) (execs body (envOf qual scope L' f cdv))
        (fun fl s' => R (.ok (.ret (match fl with | .ret v => v | _ => .none))) s')
        (fun _ _ => False)
        { s with heap := h₁, toks := tk })
    (hco : scope.isCoroutine = false := by rfl) (hgen : scope.isGenerator = false := by rfl) (hk : scope.kind = .function := by rfl)
    (hcell : ∀ x ∈ scope.names, x.2 ≠ .cell := by decide) : codeAny (model prog w) A (.call (.ref f) args) R s := by
  have hlim : s.heap.NoLimit := Z.T.nolimit.keeps Z.keep
  refine codeAny_call_function (fd := fnOf name qual params body scope dV kV doc pm an cdv ct) (body := body) hroom (Z.keep _ _ (Z.X _ _ ho)) rfl hco hgen rfl (codeRec_of (Z.X.keeps Z.keep) hcd) (hbind _ _ _ fun binds h' hp hk' hle => ?_)
  refine wpAny_newFunctionEnv hcell (hloc binds hp) (fun h₁ hns hsb => ⟨(hlim.keeps hk').fresh _ hsb, codeAny_func ?_⟩) hk
  have hk₁ : ∀ b o, s.heap.get? b = some o → h₁.get? b = some o := fun b o e => hsb.extBut b o (Nat.ne_of_lt (Heap.lt_size (hk' _ _ e))) (Heap.get?_push_of_some _ (hk' _ _ e))
  refine wpAny_mono (h binds h'.objs.size h₁ _ hp ⟨hns, hk₁, hle⟩ (Z.X.keeps Z.keep) (Z.T.keeps Z.keep)) (fun fl s' hl => hl) fun _ _ y => y.elim

theorem cls322_ok (P : Params) : ((hd.heap_39 P).lookup 322).any (fun o => match o.data with | .cls cd => !cd.abstract && !cd.hasDel | _ => false) = true := by kernel_rfl
theorem cls322 (P : Params) : ∃ oc od cd sl, (hd.heap_39 P).lookup 322 = some ⟨oc, od, .cls cd, sl⟩ ∧ cd.abstract = false ∧ cd.hasDel = false := by
  obtain ⟨o, h1, h2⟩ := any_some (cls322_ok P)
  obtain ⟨oc, od, dt, sl⟩ := o
  cases dt <;> first | (cases h2; done) | skip
  rename_i cd
  simp only [Bool.and_eq_true, Bool.not_eq_true'] at h2
  exact ⟨oc, od, cd, sl, h1, h2.1, h2.2⟩
theorem objnew {Q : Value → Shared → Prop} (X : (hd.heap_39 w.params).In s.heap)
    (hq : Q (.ref (s.heap.objs.size + 1)) { s with heap := (s.heap.push emptyDict).push (instObj 322 s.heap.objs.size) }) : wpAny (model prog w) A (call (.builtin "object.__new__") [.ref 322]) Q E s := by
  have F := PySem.F.objNew
  refine wpAny_call (codeAny_call_builtin_code (Code.quiet_builtin _ F.quiet) ?_)
  refine (Looks.of_peek (M := model prog w) X (pk_check _ _)).here ?_
  refine codeAny_builtin F.entry ?_
  unfold Builtin.«object.__new__»
  refine wpAny_bind ((Looks.of_peek (M := model prog w) X (pk_isType _ _)).here ?_)
  refine bm_if_false rfl ?_
  dsimp only
  refine wpAny_bind ((Looks.of_peek (M := model prog w) X (pk_here _ _)).here ?_)
  refine bm_if_false rfl ?_
  obtain ⟨oc, od, cd, sl, hl, e1, e2⟩ := cls322 w.params
  have hC := X _ _ hl
  refine wpAny_bind (wpAny_bind (wpAny_load hC (wpAny_pure ?_)))
  refine bm_if_false e1 ?_
  show wpAny _ _ ((alloc emptyDict >>= fun x => pure (some x)) >>= _) _ _ _
  refine wpAny_bind (wpAny_bind (wpAny_alloc (wpAny_pure (wpAny_bind ?_))))
  show wpAny _ _ (newObjAsIs _ _ _) _ _ _
  unfold newObjAsIs classHasDel
  refine wpAny_bind (wpAny_alloc (wpAny_bind (wpAny_bind (wpAny_load (Heap.get?_push_of_some _ (Heap.get?_push_of_some _ hC)) (wpAny_pure ?_)))))
  rw [e2]
  refine wpAny_pure (wpAny_pure ?_)
  show Q _ _
  rw [Heap.size_push]
  exact hq

theorem new_spec {R : Result → Shared → Prop} {v : Value} (Z : Base prog w p loose mean mg mb h₀ s.heap) (hdp : dp + 10 < recursionLimit)
    (hR : ∀ h' tk x dx, (∀ a o, s.heap.get? a = some o → h'.get? a = some o) → s.heap.get? x = none → s.heap.get? dx = none → @LT.lt Nat _ dx x → h'.get? x = some (instObj 322 dx) → h'.get? dx = some (dictOf [] 0) → R (.ok (.ret (.ref x))) { s with heap := h', toks := tk }) :
    codeAny (model prog w) { handled := none, depth := dp, frames := fr, guards := gd, units := un } (.call (.ref 62) ⟨[.ref 322, v], []⟩) R s := by
  have X0 : (hd.heap_39 w.params).In s.heap := Z.X.keeps Z.keep
  refine' call_made (PB := fun binds => ∃ C D, binds = [(PySem.Str.ofString "cls", Value.ref 322), (PySem.Str.ofString "args", Value.ref C), (PySem.Str.ofString "kwargs", Value.ref D)]) Z ?k6 ?k7 ?k8 ?k9 ?kB ?_ ?c2 ?c3 ?c4 ?c5
  case k6 => k_is
  case k7 => k_is
  case k8 => show dp < recursionLimit; omega
  case k9 =>
    intro A E Q hq
    show wpAny _ _ (newTuple [v] >>= fun a => newDict >>= fun d => pure [(PySem.Str.ofString "cls", Value.ref 322), (PySem.Str.ofString "args", a), (PySem.Str.ofString "kwargs", d)]) _ _ _
    refine wpAny_bind (wpAny_newObj_type ?_ (by show (1 : Nat) ≤ sizeLine; rw [sizeLine_eq]; decide))
    refine wpAny_bind (wpAny_newObj_type ?_ (Nat.zero_le _))
    refine wpAny_pure (hq _ _ ⟨_, _, rfl⟩ (fun a o e => Heap.get?_push_of_some _ (Heap.get?_push_of_some _ e)) ?_)
    simp only [Heap.size_push]
    omega
  case kB => 
    rintro binds ⟨C, D, rfl⟩
    exact locs rfl
  case c5 => decide
  case c2 => exact rfl
  case c3 => exact rfl
  case c4 => exact rfl
  rintro binds L' h₁ tk ⟨C, D, rfl⟩ F X T
  have N : News s.heap L' h₁ [] := News.nil
  k_steps
  refine objnew (X.keeps F.keep) ?_
  have hsz : s.heap.objs.size ≤ h₁.objs.size := Nat.le_trans F.above (Nat.le_of_lt F.ns.lt)
  have hnone : ∀ a, s.heap.objs.size ≤ a → s.heap.get? a = none := fun a ha => by
    cases e : s.heap.get? a with
    | none => rfl
    | some o => exact absurd (Heap.lt_size e) (Nat.not_lt.mpr ha)
  refine hR _ _ (h₁.objs.size + 1) h₁.objs.size (fun a o e => Heap.get?_push_of_some _ (Heap.get?_push_of_some _ (F.keep a o e))) (hnone _ (Nat.le_succ_of_le hsz)) (hnone _ hsz) (Nat.lt_succ_self _) ?_ ?_
  · have := Heap.get?_push_size (h₁.push emptyDict) (o := instObj 322 h₁.objs.size) rfl
    rwa [Heap.size_push] at this
  · exact Heap.get?_push_of_some _ (Heap.get?_push_size _ rfl)
end
end Mine
end
section
open PySem PySem.W PySem.Calls PyProof.Rows
set_option maxRecDepth 100000
set_option maxHeartbeats 4000000
namespace Mine
theorem offB5 : True := by
  w_top off
  trivial
theorem fragOn5 : (fun (_ : OpenLaw) (_ : Params → Frag) => True) PySem.Challenge.rw_ez0261_01 hd.heap_39 := by
  k_fill
  trivial
section
variable {prog : Program} {w : World} {A : Around} {E : Value → Shared → Prop} {s : Shared} {p : Program} {loose : List Str} {mean : ExcName → Option Value} {mg mb : Str → Option Value} {h₀ : Heap} {dp un : Nat} {gd : Option (List Code)} {fr : Option (List Env)}
theorem codeG_call_builtin_at {id : String} {args : Args} {b : Builtin} {R : Result → Shared → Prop} (hq : (Code.builtin id args).quiet = true) (hg : goodC (.builtin id args) = true) (hb : entryFor table id = some b)
    (h : wpAny (model prog w) A.in1 (checkBuiltinCall id args) (fun _ s₁ => wpG (model prog w) (A.under (.builtin id args)) (b args)
      (fun fin s' => match fin with | .done f => R (.ok f) s' | .again c' => c'.quiet = true ∧ codeG (model prog w) A c' R s') (fun e s' => R (.error e) s') s₁)
      (fun e s' => R (.error e) s') s) : codeG (model prog w) A (.call (.builtin id) args) R s := by
  refine codeG_of_tree rfl (wpG_of ?_)
  show wpAny _ A.in1 (do checkBuiltinCall id args; again (.builtin id args)) _ _ s
  exact wpAny_bind (wpAny_mono h (fun _ s₁ h₁ => wpAny_pure ⟨hq, codeG_builtin hg hb h₁⟩) fun _ _ x => x)

theorem under_make {args : List Value} : ({ handled := none, depth := dp, frames := fr, guards := gd, units := un } : Around).under (.builtin "type.__call__" ⟨.ref 322 :: args, []⟩) = { handled := none, depth := dp + 1, frames := fr, guards := gd, units := un + 1 } := by
  rfl

theorem get_new {Q : Value → Shared → Prop} (X : (hd.heap_39 w.params).In s.heap) (h : Q (.ref 62) { s with toks := s.toks + 1 }) : wpAny (model prog w) A (getAttr (.ref 322) (PySem.Str.ofString "__new__")) Q E s := by
  refine' cls_bind (C := 322) (mc := .type "type") (g := .builtin "staticmethod.__get__") (a := .ref 66) (obj := .none) (tp := .ref 322) X ?a ?b ?_
  case a => k_is
  case b => k_is
  refine wpAny_call ?_
  refine' sm_get (p := 66) (f := .ref 62) (rest := []) (s := { s with toks := s.toks + 1 }) X ?c ?_
  case c => k_is
  exact handed_on rfl h
theorem init_bind (self : Value) (P : Params) (S : Setting) : peek (hd.heap_39 P) S (bindSpecial (.ref 109) self) = some (.ref 109, [self]) := by kernel_rfl

theorem make_streamG {R : Result → Shared → Prop} {b : Array UInt8} {t : Tok} (Z : Base prog w p loose mean mg mb h₀ s.heap) (hz : b.size ≤ sizeLine) (hdp : dp + 20 < recursionLimit)
    (hR : ∀ h' tk x dx y t1 t2 tq, (∀ a o, s.heap.get? a = some o → h'.get? a = some o) → s.heap.get? x = none → s.heap.get? dx = none → s.heap.get? y = none → @LT.lt Nat _ dx x → @Ne Nat y x → @Ne Nat y dx →
      h'.get? x = some (instObj 322 dx) → h'.get? dx = some (streamDict w y 0 t1 t2 tq) → h'.get? y = some (baOf b) → R (.ok (.ret (.ref x))) { s with heap := h', toks := tk }) :
    codeG (model prog w) { handled := none, depth := dp, frames := fr, guards := gd, units := un } (.call (.ref 322) ⟨[.bytes b t], []⟩) R s := by
  have X0 : (hd.heap_39 w.params).In s.heap := Z.X.keeps Z.keep
  obtain ⟨oc, od, cd, sl, hl, e1, e2⟩ := cls322 w.params
  have hC := X0 _ _ hl
  refine codeG_of_tree rfl (wpG_of ?_)
  show wpAny _ _ (callAny (.ref 322) _) _ _ _
  refine nd_load hC ?_
  show wpAny _ _ (callAny.viaDunder (.ref 322) _) _ _ _
  unfold callAny.viaDunder
  refine wpAny_bind ((Looks.of_peek (M := model prog w) X0 (pk_call _ _)).here ?_)
  dsimp only
  rw [tc_bind]
  refine wpAny_bind (wpAny_pure (wpAny_bind (wpAny_pure ?_)))
  refine wpAny_pure (a := Fin.again (.call (.builtin "type.__call__") ⟨.ref 322 :: [.bytes b t], []⟩)) (And.intro rfl ?_)
  refine codeG_call_builtin_at (Code.quiet_builtin _ (by decide +kernel)) (by show (!badIds.contains "type.__call__") = true; decide +kernel) entry_typeCall (check_slot tc_kind tc_split (Looks.of_peek (M := model prog w) X0 (pk_inst _ _)) (tc_args _ _ _) ?_)
  rw [under_make]
  unfold Builtin.«type.__call__»
  refine wpG_if_false rfl ?_
  dsimp only
  refine wpG_bindA ((Looks.of_peek (M := model prog w) X0 (pk_mro _ _)).here ?_)
  refine wpG_if_false rfl ?_
  refine wpG_bindA ((Looks.of_peek (M := model prog w) X0 (pk_madeBy _ _)).here ?_)
  dsimp only
  refine wpG_bindA (get_new X0 ?_)
  refine wpG_bindA (wpAny_holding (wpAny_call (new_spec (s := { s with toks := s.toks + 1 }) Z (by omega) fun h1 tk1 x dx k1 nx ndx lt gx gdx => ?_)))
  have X1 : (hd.heap_39 w.params).In h1 := X0.keeps k1
  have tx : Looks (model prog w) h1 (typeOf (.ref x)) (.ref 322) := (Looks.ld gx).andThen .now
  have ix : Looks (model prog w) h1 (isInstance (.ref x) (.ref 322)) true := tx.andThen (Looks.of_peek (M := model prog w) X1 (pk_self _ _))
  have sx : Looks (model prog w) h1 (specialOf (.ref x) (PySem.Str.ofString "__init__")) (some (.ref 109)) := tx.andThen (Looks.of_peek (M := model prog w) X1 (pk_initf _ _))
  refine wpG_bindA (ix.here ?_)
  refine wpG_if_false rfl ?_
  refine wpG_bind (wpG_holding ?_)
  unfold callSpecial?
  refine wpG_bindA (sx.here ?_)
  refine wpG_holding ?_
  refine wpG_bindA ((Looks.of_peek (M := model prog w) X1 (init_bind _ _ _)).here ?_)
  dsimp only
  refine wpG_bind (wpG_call ?_)
  refine init_specG (s := { s with heap := h1, toks := tk1 }) (x := x) (dx := dx) (b := b) (t := t) (h₀ := h₀) ⟨fun a o e => k1 a o (Z.keep a o e), Z.X, Z.T⟩ gx gdx ?_ ?_ (Nat.ne_of_gt lt) hz (by omega) fun h2 tk2 y t1 t2 tq k2 g2dx g2y ny => ?_
  · cases e : h₀.get? x with
    | none => rfl
    | some o => have := Z.keep x o e; rw [nx] at this; cases this
  · cases e : h₀.get? dx with
    | none => rfl
    | some o => have := Z.keep dx o e; rw [ndx] at this; cases this
  refine wpG_pure ?_
  dsimp only
  refine wpG_if_false rfl ?_
  refine wpG_pure ?_
  refine hR h2 tk2 x dx y t1 t2 tq (fun a o e => k2 a o (fun q => by subst q; rw [ndx] at e; cases e) (k1 a o e)) nx ndx ?_ lt ?_ ?_ (k2 x _ (Nat.ne_of_gt lt) gx) g2dx g2y
  · cases e : s.heap.get? y with
    | none => rfl
    | some o => have := k1 y o e; rw [ny] at this; cases this
  · intro q; subst q; rw [gx] at ny; cases ny
  · intro q; subst q; rw [gdx] at ny; cases ny
end
end Mine
end
section
open PySem PySem.W PySem.Calls PyProof.Rows
set_option maxRecDepth 100000
set_option maxHeartbeats 4000000
namespace Mine
theorem offB6 : True := by
  w_top off
  trivial
theorem fragOn6 : (fun (_ : OpenLaw) (_ : Params → Frag) => True) PySem.Challenge.rw_ez0261_01 hd.heap_39 := by
  k_fill
  trivial
section
variable {prog : Program} {w : World} {A : Around} {E : Value → Shared → Prop} {s : Shared} {p : Program} {loose : List Str} {mean : ExcName → Option Value} {mg mb : Str → Option Value} {h₀ : Heap} {dp un : Nat} {gd : Option (List Code)} {fr : Option (List Env)}
theorem gone {h h' : Heap} {x : Addr} (k : ∀ a o, h.get? a = some o → h'.get? a = some o) (n : h'.get? x = none) : h.get? x = none := by
  cases e : h.get? x with
  | none => rfl
  | some o => rw [k x o e] at n; cases n

theorem as_streamG {R : Result → Shared → Prop} {b : Array UInt8} {t : Tok} (Z : Base prog w p loose mean mg mb h₀ s.heap) (hz : b.size ≤ sizeLine) (hdp : dp + 30 < recursionLimit)
    (hR : ∀ h' tk x dx y t1 t2 tq, (∀ a o, s.heap.get? a = some o → h'.get? a = some o) → s.heap.get? x = none → s.heap.get? dx = none → s.heap.get? y = none → @LT.lt Nat _ dx x → @Ne Nat y x → @Ne Nat y dx →
      h'.get? x = some (instObj 322 dx) → h'.get? dx = some (streamDict w y 0 t1 t2 tq) → h'.get? y = some (baOf b) → R (.ok (.ret (.ref x))) { s with heap := h', toks := tk }) :
    codeG (model prog w) { handled := none, depth := dp, frames := fr, guards := gd, units := un } (.call (.ref 578) ⟨[.bytes b t], []⟩) R s := by
  have X0 : (hd.heap_39 w.params).In s.heap := Z.X.keeps Z.keep
  refine' call_butG (bs := []) Z ?hb ?k6 ?k7 ?k8 ?k9 ?kB ?_ ?c2 ?c3 ?c4 ?c5
  case hb => exact fun _ hq => nomatch hq
  case k6 => k_is
  case k7 => k_is
  case k8 => show dp < recursionLimit; omega
  case k9 => first | exact BindsTo.of_eq rfl | exact binds_K X0 rfl (by k_is) rfl rfl rfl
  case kB => exact locs rfl
  case c5 => decide
  case c2 => exact rfl
  case c3 => exact rfl
  case c4 => exact rfl
  intro g L' h₁ Z' kg F N X T
  have kk : ∀ a o, s.heap.get? a = some o → h₁.get? a = some o := fun a o e => F.keep a o (kg a o (fun q => nomatch q) e)
  refine wpG_execs_cons (wpG_Return (wpG_Call_Name ?_))
  walk1
  refine' callWithG_K (K := hd.heap_39 w.params) ?a ?_
  case a => k_is
  walk1
  refine ⟨by k_in, wpG_call ?_⟩
  dsimp only [List.nil_append]
  refine make_streamG (s := { s with heap := h₁, toks := _ }) (dp := dp + 1) (h₀ := g) Z' hz (by omega) fun h' tk x dx y t1 t2 tq k nx ndx ny lt n1 n2 gx gdx gy => ?_
  exact hR h' tk x dx y t1 t2 tq (fun a o e => k a o (kk a o e)) (gone kk nx) (gone kk ndx) (gone kk ny) lt n1 n2 gx gdx gy
end
end Mine
end
section
open PySem PySem.W PySem.Calls PyProof.Rows
set_option maxRecDepth 100000
set_option maxHeartbeats 4000000
namespace Mine
theorem offS0 : True := by
  w_top off
  trivial
theorem fragOnS0 : (fun (_ : OpenLaw) (_ : Params → Frag) => True) PySem.Challenge.rw_ez0261_01 hd.heap_39 := by
  k_fill
  trivial
section
variable {prog : Program} {w : World} {A : Around} {E : Value → Shared → Prop} {s : Shared} {p : Program} {loose : List Str} {mean : ExcName → Option Value} {mg mb : Str → Option Value} {h₀ : Heap} {dp un : Nat} {gd : Option (List Code)} {fr : Option (List Env)} {L : Addr} {m : Str → Option Value} {news : List (Addr × Obj)}
theorem index_spec {R : Result → Shared → Prop} {q : Int} {t : Tok} {v : Value} (Z : Base prog w p loose mean mg mb h₀ s.heap) (hdp : dp + 10 < recursionLimit) (h1 : -1099511627776 ≤ q) (h2 : q ≤ 1099511627776)
    (hR : ∀ h' tk t', (∀ a o, s.heap.get? a = some o → h'.get? a = some o) → R (.ok (.ret (.int q t'))) { s with heap := h', toks := tk }) :
    codeAny (model prog w) { handled := none, depth := dp, frames := fr, guards := gd, units := un } (.call (.ref 35) ⟨[.int q t, v], []⟩) R s := by
  have X0 : (hd.heap_39 w.params).In s.heap := Z.X.keeps Z.keep
  refine' call_but (bs := []) Z ?hb ?k6 ?k7 ?k8 ?k9 ?kB ?_ ?c2 ?c3 ?c4 ?c5
  case hb => exact fun _ hq => nomatch hq
  case k6 => k_is
  case k7 => k_is
  case k8 => show dp < recursionLimit; omega
  case k9 => first | exact BindsTo.of_eq rfl | exact binds_K X0 rfl (by k_is) rfl rfl rfl
  case kB => exact locs rfl
  case c5 => decide
  case c2 => exact rfl
  case c3 => exact rfl
  case c4 => exact rfl
  intro g L' h₁ Z' kg F N X T
  k_steps
  rename Fr _ _ _ _ => F9
  exact hR _ _ _ (fun a o e => F9.keep a o (kg a o (fun q => nomatch q) e))

theorem index_use {q : Int} {t : Tok} {v : Value} {Q : Value → Shared → Prop} (F : Fr h₀ L s.heap m) (X : (hd.heap_39 w.params).In h₀) (T : Top p loose mean mg mb h₀) (N : News h₀ L s.heap news) (hA : A.handled = none) (hd : A.depth + 10 < recursionLimit) (h1 : -1099511627776 ≤ q) (h2 : q ≤ 1099511627776)
    (h : ∀ h' tk t', Fr h₀ L h' m → News h₀ L h' news → Q (.int q t') { s with heap := h', toks := tk }) : wpAny (model prog w) A (call (.ref 35) [.int q t, v]) Q E s := by
  obtain ⟨hd', dp, fr, gd, un⟩ := A
  subst hA
  exact wpAny_call (index_spec ⟨F.keep, X, T⟩ hd h1 h2 fun h' tk t' k => h h' tk t' (fr_ext F k) (news_ext N k))

local macro_rules | `(tactic| walk_at "call ref") => `(tactic| (k_here; (with_reducible show wpAny _ _ (call (Value.ref 35) [Value.int _ _, _]) _ _ _); k_dflt (refine' index_use ?k1 ?k2 ?k3 ?k4 ?k5 ?k6 ?k7 ?k8 ?_; (case k1 => k_asm); (case k2 => k_asm); (case k3 => k_asm); (case k4 => k_asm); (case k5 => exact rfl); (case k6 => (simp only [depth_deeper, depth_in1]; omega)); (case k7 => omega); (case k8 => omega); k_whole); intro h' tk' t' F' N'))

theorem whence_spec {R : Result → Shared → Prop} {q : Int} {t : Tok} {v : Value} (Z : Base prog w p loose mean mg mb h₀ s.heap) (hdp : dp + 20 < recursionLimit) (h1 : -2147483648 ≤ q) (h2 : q ≤ 2147483647)
    (hR : ∀ h' tk t', (∀ a o, s.heap.get? a = some o → h'.get? a = some o) → R (.ok (.ret (.int q t'))) { s with heap := h', toks := tk }) :
    codeAny (model prog w) { handled := none, depth := dp, frames := fr, guards := gd, units := un } (.call (.ref 28) ⟨[.int q t, v], []⟩) R s := by
  have X0 : (hd.heap_39 w.params).In s.heap := Z.X.keeps Z.keep
  refine' call_but (bs := []) Z ?hb ?k6 ?k7 ?k8 ?k9 ?kB ?_ ?c2 ?c3 ?c4 ?c5
  case hb => exact fun _ hq => nomatch hq
  case k6 => k_is
  case k7 => k_is
  case k8 => show dp < recursionLimit; omega
  case k9 => first | exact BindsTo.of_eq rfl | exact binds_K X0 rfl (by k_is) rfl rfl rfl
  case kB => exact locs rfl
  case c5 => decide
  case c2 => exact rfl
  case c3 => exact rfl
  case c4 => exact rfl
  intro g L' h₁ Z' kg F N X T
  k_steps
  rename Fr _ _ _ _ => F9
  exact hR _ _ _ (fun a o e => F9.keep a o (kg a o (fun q => nomatch q) e))
theorem whence_use {q : Int} {t : Tok} {v : Value} {Q : Value → Shared → Prop} (F : Fr h₀ L s.heap m) (X : (hd.heap_39 w.params).In h₀) (T : Top p loose mean mg mb h₀) (N : News h₀ L s.heap news) (hA : A.handled = none) (hd : A.depth + 20 < recursionLimit) (h1 : -2147483648 ≤ q) (h2 : q ≤ 2147483647)
    (h : ∀ h' tk t', Fr h₀ L h' m → News h₀ L h' news → Q (.int q t') { s with heap := h', toks := tk }) : wpAny (model prog w) A (call (.ref 28) [.int q t, v]) Q E s := by
  obtain ⟨hd', dp, fr, gd, un⟩ := A
  subst hA
  exact wpAny_call (whence_spec ⟨F.keep, X, T⟩ hd h1 h2 fun h' tk t' k => h h' tk t' (fr_ext F k) (news_ext N k))
local macro_rules | `(tactic| walk_at "call ref") => `(tactic| (k_here; (with_reducible show wpAny _ _ (call (Value.ref 28) [Value.int _ _, _]) _ _ _); k_dflt (refine' whence_use ?k1 ?k2 ?k3 ?k4 ?k5 ?k6 ?k7 ?k8 ?_; (case k1 => k_asm); (case k2 => k_asm); (case k3 => k_asm); (case k4 => k_asm); (case k5 => exact rfl); (case k6 => (simp only [depth_deeper, depth_in1]; omega)); (case k7 => omega); (case k8 => omega); k_whole); intro h' tk' t' F' N'))

/-- the stream's three objects -/
structure Strm (w : World) (h : Heap) (x dx y : Addr) (b : Array UInt8) (q : Int) (t1 t2 tq : Tok) : Prop where
  gx : h.get? x = some (instObj 322 dx)
  gdx : h.get? dx = some (streamDict w y q t1 t2 tq)
  gy : h.get? y = some (baOf b)
theorem Strm.ne1 {h : Heap} {x dx y : Addr} {b : Array UInt8} {q : Int} {t1 t2 tq : Tok} (S : Strm w h x dx y b q t1 t2 tq) : @Ne Nat x dx := by
  intro e; have := S.gx; rw [show x = dx from e, S.gdx] at this; cases this
theorem Strm.ne2 {h : Heap} {x dx y : Addr} {b : Array UInt8} {q : Int} {t1 t2 tq : Tok} (S : Strm w h x dx y b q t1 t2 tq) : @Ne Nat x y := by
  intro e; have := S.gx; rw [show x = y from e, S.gy] at this; cases this
theorem Strm.ne3 {h : Heap} {x dx y : Addr} {b : Array UInt8} {q : Int} {t1 t2 tq : Tok} (S : Strm w h x dx y b q t1 t2 tq) : @Ne Nat y dx := by
  intro e; have := S.gy; rw [show y = dx from e, S.gdx] at this
  have h2 := congrArg Obj.data (Option.some.inj this)
  cases h2
theorem keep_all {h g h' : Heap} {L : Addr} {m : Str → Option Value} {bs : List (Addr × Obj)} (hbs : ∀ q ∈ bs, h.get? q.1 = some q.2) (kg : ∀ b o, b ∉ bs.map (·.1) → h.get? b = some o → g.get? b = some o) (F : Fr g L h' m) (N : News g L h' bs) :
    ∀ a o, h.get? a = some o → h'.get? a = some o := by
  intro a o e
  by_cases ha : a ∈ bs.map (·.1)
  · obtain ⟨q, hq, rfl⟩ := List.mem_map.mp ha
    rw [hbs q hq] at e
    cases e
    exact (N q hq).1
  · exact F.keep a o (kg a o ha e)
theorem keep_but {h g h' : Heap} {L d : Addr} {m : Str → Option Value} {bs bs' : List (Addr × Obj)} (hbs : ∀ q ∈ bs, h.get? q.1 = some q.2) (kg : ∀ b o, b ∉ bs.map (·.1) → h.get? b = some o → g.get? b = some o) (F : Fr g L h' m) (N : News g L h' bs') (hs : ∀ q ∈ bs, q.1 ≠ d → q ∈ bs') :
    ∀ a o, a ≠ d → h.get? a = some o → h'.get? a = some o := by
  intro a o hd e
  by_cases ha : a ∈ bs.map (·.1)
  · obtain ⟨q, hq, rfl⟩ := List.mem_map.mp ha
    rw [hbs q hq] at e
    cases e
    exact (N q (hs q hq hd)).1
  · exact F.keep a o (kg a o ha e)
theorem strm_bs {h h₀ : Heap} {x dx y : Addr} {b : Array UInt8} {q : Int} {t1 t2 tq : Tok} (S : Strm w h x dx y b q t1 t2 tq) (hx0 : h₀.get? x = none) (hdx0 : h₀.get? dx = none) (hy0 : h₀.get? y = none) :
    ∀ z ∈ [(x, instObj 322 dx), (dx, streamDict w y q t1 t2 tq), (y, baOf b)], h.get? z.1 = some z.2 ∧ h₀.get? z.1 = none := by
  intro z hz
  simp only [List.mem_cons, List.not_mem_nil, or_false] at hz
  rcases hz with rfl | rfl | rfl
  · exact ⟨S.gx, hx0⟩
  · exact ⟨S.gdx, hdx0⟩
  · exact ⟨S.gy, hy0⟩

theorem check_spec {R : Result → Shared → Prop} {x dx y : Addr} {b : Array UInt8} {q : Int} {t1 t2 tq : Tok} (Z : Base prog w p loose mean mg mb h₀ s.heap) (S : Strm w s.heap x dx y b q t1 t2 tq) (hx0 : h₀.get? x = none) (hdx0 : h₀.get? dx = none) (hy0 : h₀.get? y = none) (hdp : dp + 10 < recursionLimit)
    (hR : ∀ h' tk, (∀ a o, s.heap.get? a = some o → h'.get? a = some o) → R (.ok (.ret .none)) { s with heap := h', toks := tk }) :
    codeAny (model prog w) { handled := none, depth := dp, frames := fr, guards := gd, units := un } (.call (.ref 116) ⟨[.ref x], []⟩) R s := by
  have X0 : (hd.heap_39 w.params).In s.heap := Z.X.keeps Z.keep
  have n1 := S.ne1
  have n2 := S.ne2
  have n3 := S.ne3
  refine' call_but (bs := [(x, instObj 322 dx), (dx, streamDict w y q t1 t2 tq), (y, baOf b)]) Z ?hb ?k6 ?k7 ?k8 ?k9 ?kB ?_ ?c2 ?c3 ?c4 ?c5
  case hb => exact strm_bs S hx0 hdx0 hy0
  case k6 => k_is
  case k7 => k_is
  case k8 => show dp < recursionLimit; omega
  case k9 => first | exact BindsTo.of_eq rfl | exact binds_K X0 rfl (by k_is) rfl rfl rfl
  case kB => exact locs rfl
  case c5 => decide
  case c2 => exact rfl
  case c3 => exact rfl
  case c4 => exact rfl
  intro g L' h₁ Z' kg F N X T
  dsimp only [streamDict] at N
  k_steps
  exact hR _ _ (keep_all (fun z hz => (strm_bs S hx0 hdx0 hy0 z hz).1) kg F N)

theorem check_use {x dx y : Addr} {b : Array UInt8} {q : Int} {t1 t2 tq : Tok} {Q : Value → Shared → Prop} (F : Fr h₀ L s.heap m) (X : (hd.heap_39 w.params).In h₀) (T : Top p loose mean mg mb h₀) (N : News h₀ L s.heap news) (hA : A.handled = none) (hd : A.depth + 10 < recursionLimit)
    (m1 : (x, instObj 322 dx) ∈ news) (m2 : (dx, streamDict w y q t1 t2 tq) ∈ news) (m3 : (y, baOf b) ∈ news)
    (h : ∀ h' tk, Fr h₀ L h' m → News h₀ L h' news → Q .none { s with heap := h', toks := tk }) : wpAny (model prog w) A (call (.ref 116) [.ref x]) Q E s := by
  obtain ⟨hd', dp, fr, gd, un⟩ := A
  subst hA
  exact wpAny_call (check_spec ⟨F.keep, X, T⟩ (x := x) (dx := dx) (y := y) (b := b) (q := q) (t1 := t1) (t2 := t2) (tq := tq) ⟨(N _ m1).1, (N _ m2).1, (N _ m3).1⟩ (N _ m1).2.2 (N _ m2).2.2 (N _ m3).2.2 hd fun h' tk k => h h' tk (fr_ext F k) (news_ext N k))
local macro_rules | `(tactic| walk_at "call ref") => `(tactic| (k_here; (show wpAny _ _ (call (Value.ref 116) [Value.ref _]) _ _ _); k_dflt (refine' check_use ?k1 ?k2 ?k3 ?k4 ?k5 ?k6 ?k7 ?k8 ?k9 ?_; (case k1 => k_asm); (case k2 => k_asm); (case k3 => k_asm); (case k4 => k_asm); (case k5 => exact rfl); (case k6 => (simp only [depth_deeper, depth_in1]; omega)); (case k7 => k_mem); (case k8 => k_mem); (case k9 => k_mem); k_whole); intro h' tk' F' N'))

theorem seek_spec {R : Result → Shared → Prop} {x dx y : Addr} {b : Array UInt8} {q v : Int} {t1 t2 tq tv : Tok} (Z : Base prog w p loose mean mg mb h₀ s.heap) (S : Strm w s.heap x dx y b q t1 t2 tq) (hx0 : h₀.get? x = none) (hdx0 : h₀.get? dx = none) (hy0 : h₀.get? y = none) (hdp : dp + 40 < recursionLimit)
    (h1 : 0 ≤ v) (h2 : v ≤ 1099511627776)
    (hR : ∀ h' tk t' t1' t2' tq', (∀ a o, a ≠ dx → s.heap.get? a = some o → h'.get? a = some o) → h'.get? dx = some (streamDict w y v t1' t2' tq') → R (.ok (.ret (.int (v + 0) t'))) { s with heap := h', toks := tk }) :
    codeAny (model prog w) { handled := none, depth := dp, frames := fr, guards := gd, units := un } (.call (.ref 230) ⟨[.ref x, .int v tv], []⟩) R s := by
  have X0 : (hd.heap_39 w.params).In s.heap := Z.X.keeps Z.keep
  have n1 := S.ne1
  have n2 := S.ne2
  have n3 := S.ne3
  refine' call_but (bs := [(x, instObj 322 dx), (dx, streamDict w y q t1 t2 tq), (y, baOf b)]) Z ?hb ?k6 ?k7 ?k8 ?k9 ?kB ?_ ?c2 ?c3 ?c4 ?c5
  case hb => exact strm_bs S hx0 hdx0 hy0
  case k6 => k_is
  case k7 => k_is
  case k8 => show dp < recursionLimit; omega
  case k9 => first | exact BindsTo.of_eq rfl | exact binds_K X0 rfl (by k_is) rfl rfl rfl
  case kB => exact locs rfl
  case c5 => decide
  case c2 => exact rfl
  case c3 => exact rfl
  case c4 => exact rfl
  intro g L' h₁ Z' kg F N X T
  dsimp only [streamDict] at N
  k_steps
  rename Fr _ _ _ _ => F9
  rename News _ _ _ _ => N9
  refine hR _ _ _ t1 t2 _ (keep_but (d := dx) (fun z hz => (strm_bs S hx0 hdx0 hy0 z hz).1) kg F9 N9 ?_) (News.get N9 (by k_mem))
  intro z hz hne
  simp only [List.mem_cons, List.not_mem_nil, or_false] at hz
  rcases hz with rfl | rfl | rfl
  · k_mem
  · exact absurd rfl hne
  · k_mem
end
end Mine
end
section
open PySem PySem.W PySem.Calls PyProof.Rows Builtin
set_option maxRecDepth 100000
set_option maxHeartbeats 4000000
namespace Mine
theorem offS1 : True := by
  w_top off
  trivial
theorem slot_ba_len : Slot "bytearray" "__len__" "bytearray.__len__" :=
  .of (owner := "bytearray") (n := "__len__") (by rw [typeLookup_type, builtinLookup_eq_fast]; kernel_rfl) (by decide +kernel) (by decide +kernel) (by decide +kernel)
    (by first | exact .inl (by decide +kernel) | exact .inr (by decide +kernel)) (by rw [isSubtype_type]; kernel_rfl)
theorem slot_ba_item : Slot "bytearray" "__getitem__" "bytearray.__getitem__" :=
  .of (owner := "bytearray") (n := "__getitem__") (by rw [typeLookup_type, builtinLookup_eq_fast]; kernel_rfl) (by decide +kernel) (by decide +kernel) (by decide +kernel)
    (by first | exact .inl (by decide +kernel) | exact .inr (by decide +kernel)) (by rw [isSubtype_type]; kernel_rfl)
theorem entry_ba_len : entryFor table "bytearray.__len__" = some Builtin.«bytearray.__len__» := entryFor_of_tree (by kernel_rfl)
theorem entry_ba_item : entryFor table "bytearray.__getitem__" = some Builtin.«bytearray.__getitem__» := entryFor_of_tree (by kernel_rfl)
theorem args_ba_len (a : Value) : argsOk "bytearray.__len__" ⟨[a], []⟩ := by unfold argsOk; kernel_rfl
theorem args_ba_item (a b : Value) : argsOk "bytearray.__getitem__" ⟨[a, b], []⟩ := by unfold argsOk; kernel_rfl
theorem ba_no_bytes : typeLookup (.type "bytearray") "__bytes__" = pure none := by rw [typeLookup_type, builtinLookup_eq_fast]; kernel_rfl
theorem ba_no_index : typeLookup (.type "bytearray") "__index__" = pure none := by rw [typeLookup_type, builtinLookup_eq_fast]; kernel_rfl

theorem ba_payload {prog : Program} {w : World} {A : Around} {E : Value → Shared → Prop} {s : Shared} {y : Addr} {b : Array UInt8} {Q : Array UInt8 → Shared → Prop} (hy : s.heap.get? y = some (baOf b)) (h : Q b s) : wpAny (model prog w) A (Bytes.payload (.ref y)) Q E s := by
  unfold Bytes.payload Bytes.payload?
  exact wpAny_bind (wpAny_bind (wpAny_load hy (wpAny_pure (wpAny_pure h))))
theorem meets_ba_len (b : Array UInt8) (y : Addr) :
    Meets («bytearray.__len__» ⟨[.ref y], []⟩) (fun _ R s => s.heap.get? y = some (baOf b) ∧ R (.ok (.ret (.int b.size s.toks))) { s with toks := s.toks + 1 }) := by
  refine .of_wp fun prog w A R s hS => ?_
  show wpAny _ _ (Bytes.payload (.ref y) >>= fun r => _) _ _ s
  refine wpAny_bind (ba_payload hS.1 ?_)
  exact wpAny_bind (wpAny_mkInt (wpAny_pure ⟨_, rfl, hS.2⟩))
section
variable {prog : Program} {w : World} {A : Around} {E : Value → Shared → Prop} {s : Shared} {y : Addr} {b : Array UInt8}
theorem ba_len {Q : Value → Shared → Prop} (hy : s.heap.get? y = some (baOf b)) (hz : b.size ≤ sizeLine) (h : ∀ t tk, Q (.int b.size t) { s with toks := tk }) : wpAny (model prog w) A (call (.builtin "len") [.ref y]) Q E s := by
  have hT : s.TypeIs (.ref y) "bytearray" := ⟨_, hy, rfl⟩
  refine Calls.call_function_entry kind_len plain_len entry_len (args_len1 _) ?_
  unfold Builtin.«len»
  refine wpAny_bind (m := oneArg "len" _) (wpAny_pure ?_)
  refine wpAny_bind (m := callSpecial? (.ref y) (Str.ofString "__len__")) (wpAny_callSpecial?_slot (name := Str.ofString "__len__") hT slot_ba_len (call_meets slot_ba_len hT entry_ba_len (args_ba_len _) (meets_ba_len b y) ⟨hy, ?_⟩))
  show wpAny _ _ _ _ _ { s with toks := s.toks + 1 }
  refine wpAny_bind (wpAny_holding (wpAny_pure ?_))
  refine wpAny_bind (wpAny_letGo ?_)
  show wpAny _ _ (if (b.size : Int) < 0 then _ else _) _ _ _
  rw [if_neg (by omega)]
  show wpAny _ _ (if (b.size : Int) ≥ 2 ^ 63 then _ else _) _ _ _
  rw [if_neg (by rw [sizeLine_eq] at hz; omega)]
  exact wpAny_bind (wpAny_mkInt (wpAny_pure ⟨_, rfl, h _ _⟩))
end

theorem meets_ba_slice (b : Array UInt8) (y a : Addr) {l u : Int} {tl tu : Tok} :
    Meets («bytearray.__getitem__» ⟨[.ref y, .ref a], []⟩) (fun _ R s => s.heap.IsSliceOf a (.int l tl) (.int u tu) .none ∧ s.heap.get? y = some (baOf b) ∧ (KBy.picked b (some l) (some u)).size ≤ sizeLine ∧
      R (.ok (.ret (.ref s.heap.objs.size))) { s with heap := s.heap.push (baOf (KBy.picked b (some l) (some u))) }) := by
  refine .of_wp fun prog w A R s hS => ?_
  obtain ⟨⟨o, ho, hc, hd⟩, hy, hsz, h⟩ := hS
  have hT : s.TypeIs (.ref a) "slice" := ⟨o, ho, hc⟩
  show wpAny _ _ (Bytes.subscript? (.ref a) >>= fun r => _) _ _ s
  refine wpAny_bind ?_
  unfold Bytes.subscript?
  refine wpAny_bind (wpAny_specialOf hT slice_no_index (wpAny_pure ?_))
  refine wpAny_bind (wpAny_typeOf hT ?_)
  show wpAny _ _ (Bytes.sliceParts (.ref a) >>= fun r => _) _ _ s
  refine wpAny_bind ?_
  unfold Bytes.sliceParts
  refine wpAny_bind (wpAny_field (x := .none) ho hd rfl ?_)
  kby_none
  refine wpAny_ite (KBy.ite_no (show ¬ ((Value.none == rawInt 0) = true) from Bool.false_ne_true) ?_)
  refine wpAny_bind (wpAny_field (x := .int l tl) ho hd rfl ?_)
  have go : wpAny (model prog w) A.in1 (sliceIndices (rawPart (some l)) (rawPart (some u)) (rawPart none) b.size) (fun r s' => r = sliceBounds (some l) (some u) none b.size ∧ s' = s) (fun _ _ => False) s :=
    wpAny_of_eq (sliceIndices_raw (some l) (some u) none b.size (fun e => nomatch e)) ⟨rfl, rfl⟩
  kby_int
  refine wpAny_bind (wpAny_field (x := .int u tu) ho hd rfl ?_)
  kby_int
  refine wpAny_pure ?_
  refine wpAny_bind (ba_payload hy ?_)
  refine wpAny_bind (wpAny_mono go (fun r s' hr => ?_) fun _ _ e => e.elim)
  obtain ⟨hr1, hr2⟩ := hr
  subst hr1 hr2
  refine wpAny_bind ?_
  unfold Bytes.newBytearray
  refine wpAny_newObj_type (wpAny_pure ⟨_, rfl, h⟩) hsz

section
variable {prog : Program} {w : World} {A : Around} {E : Value → Shared → Prop} {s : Shared} {y z : Addr} {b : Array UInt8} {h₀ : Heap} {L : Addr} {m : PySem.Str → Option Value} {news : List (Addr × Obj)} {value slice : PySem.Expr}
theorem picked_le (b : Array UInt8) (lo hi : Option Int) : (KBy.picked b lo hi).size ≤ b.size := KBc.size_picked_le b lo hi
theorem ba_slice_K {l u : Int} {tl tu : Tok} {Q : Value → Shared → Prop} (F : Fr h₀ L s.heap m) (N : News h₀ L s.heap news) (my : (y, baOf b) ∈ news) (hz : b.size ≤ sizeLine)
    (h : ∀ z h', Fr h₀ L h' m → News h₀ L h' ((z, baOf (KBy.picked b (some l) (some u))) :: news) → (∀ p ∈ news, p.1 < z) → Q (.ref z) { s with heap := h' })
    (hs : subscripted slice false (.ref y) (.ref s.heap.objs.size) = operate [.ref s.heap.objs.size, .ref y] (getItem (.ref y) (.ref s.heap.objs.size)) := by with_unfolding_all rfl)
    (ht : ∀ r, letTemporaryGo value (.ref y) r = pure () := by intro _; with_unfolding_all rfl) :
    wpAny (model prog w) A (subscriptTail value slice (.ref y) (.ref s.heap.objs.size)) Q E { s with heap := s.heap.push { cls := .type "slice", data := .fields #[.int l tl, .int u tu, .none] } } := by
  have hy := (N _ my).1
  have hy2 : (s.heap.push { cls := .type "slice", data := .fields #[.int l tl, .int u tu, .none] }).get? y = some (baOf b) := Heap.get?_push_of_some _ hy
  have hT : ({ s with heap := s.heap.push { cls := .type "slice", data := .fields #[.int l tl, .int u tu, .none] } } : Shared).TypeIs (.ref y) "bytearray" := ⟨_, hy2, rfl⟩
  have N2 := N.push F ({ cls := .type "slice", data := .fields #[.int l tl, .int u tu, .none] } : Obj)
  have F2 := F.push ({ cls := .type "slice", data := .fields #[.int l tl, .int u tu, .none] } : Obj)
  have N3 := N2.push F2 (baOf (KBy.picked b (some l) (some u)))
  refine tail_of_ItemOn ⟨"bytearray", _, slot_ba_item.lookup, hT, getItem_meets hT (by decide) slot_ba_item entry_ba_item (args_ba_item _ _) (meets_ba_slice b y _)
    ⟨Heap.IsSliceOf.new _ _ _ _, hy2, Nat.le_trans (picked_le b _ _) hz, ?_⟩⟩ hs ht
  refine h _ _ (F2.push _) (fun p hp => N3 p ?_) (fun p hp => Heap.lt_size (N2 p (.tail _ hp)).1)
  rcases List.mem_cons.mp hp with rfl | hp
  · exact .head _
  · exact .tail _ (.tail _ hp)

theorem ba_bufferQ {id : String} {full : Bool} {Q : Option (Array UInt8) → Shared → Prop} (hy : s.heap.get? y = some (baOf b)) (h : Q (some b) s) : wpAny (model prog w) A (Builtin.Bytes.buffer? id (.ref y) full) Q E s := by
  have hT : s.TypeIs (.ref y) "bytearray" := ⟨_, hy, rfl⟩
  unfold Builtin.Bytes.buffer?
  refine wpAny_bind (wpAny_specialOf hT ba_buffer ?_)
  dsimp only
  unfold Builtin.Bytes.slotIsOwn
  refine wpAny_bind (wpAny_bind ?_)
  refine wpAny_specialOf hT ba_buffer ?_
  dsimp only
  refine bm_if_false (by decide +kernel) ?_
  rw [show ((("bytearray.__buffer__" : String).dropRight ("__buffer__".length + 1))) = "bytearray" from by decide +kernel]
  refine wpAny_isInstance (b := true) hT ba_sub ?_
  refine bm_if_false rfl ?_
  refine wpAny_bind (wpAny_specialOf hT ba_buffer ?_)
  show wpAny _ _ (Builtin.Bytes.ownRelease (Value.ref y) >>= _) _ _ _
  refine wpAny_bind (ba_ownRelease hT ?_)
  refine bm_if_false rfl ?_
  exact wpAny_bind (ba_payload hy (wpAny_pure h))

theorem code_bytes_ba {Q : Value → Shared → Prop} (hy : s.heap.get? y = some (baOf b)) (hz : b.size ≤ sizeLine) (hQ : ∀ t k, Q (.bytes b t) { s with toks := k }) :
    codeAny (model prog w) A (.call (.builtin "bytes.__new__") ⟨[.type "bytes", .ref y], []⟩) (wants Q E) s := by
  have hT : s.TypeIs (.ref y) "bytearray" := ⟨_, hy, rfl⟩
  refine codeAny_of_tree ?_
  show wpAny _ A.in1 (do checkBuiltinCall "bytes.__new__" ⟨[.type "bytes", .ref y], []⟩; again (.builtin "bytes.__new__" ⟨[.type "bytes", .ref y], []⟩)) _ _ s
  refine wpAny_bind (wpAny_of_eq (PySem.F.bm_newCall _) (wpAny_pure ⟨plainId_quiet PySem.F.bm_plain _, codeAny_builtin PySem.F.bm_entry ?_⟩))
  rw [Around.under_plainId PySem.F.bm_plain _]
  unfold Builtin.«bytes.__new__»
  refine wpAny_bind (wpAny_of_eq (a := true) rfl ?_)
  refine bm_if_false rfl ?_
  refine wpAny_bind (wpAny_of_eq PySem.F.bm_sub ?_)
  refine bm_if_false rfl ?_
  refine wpAny_bind (wpAny_of_eq (PySem.F.bm_bind _) ?_)
  refine wpAny_bind (wpAny_of_eq (a := ()) rfl ?_)
  refine wpAny_bind (wpAny_of_eq (a := ()) rfl ?_)
  refine bm_if_false rfl ?_
  refine wpAny_bind (wpAny_specialOf hT ba_no_bytes ?_)
  refine wpAny_bind (wpAny_bind ?_)
  show wpAny _ _ (load y >>= _) _ _ _
  refine wpAny_bind (wpAny_load hy ?_)
  refine wpAny_pure (wpAny_pure ?_)
  refine bm_if_false rfl ?_
  refine wpAny_bind (wpAny_specialOf hT ba_no_index ?_)
  refine bm_if_true rfl ?_
  first
    | show wpAny _ _ (Builtin.Bytes.buffer? "bytes.__new__" (.ref y) true >>= _) _ _ _
    | (refine wpAny_bind ?_; show wpAny _ _ (Builtin.Bytes.buffer? "bytes.__new__" (.ref y) true >>= _) _ _ _)
  refine wpAny_bind (ba_bufferQ hy ?_)
  refine wpAny_bind (wpAny_rule ?_)
  refine wpAny_bind (wpAny_mkBytes ?_ hz)
  show wpAny _ _ (if (Value.type "bytes" == Value.type "bytes") = true then _ else _) _ _ _
  refine bm_if_true (by decide) ?_
  first
    | exact wpAny_pure (hQ _ _)
    | exact wpAny_pure (wpAny_pure (hQ _ _))
    | exact wpAny_bind (wpAny_pure (wpAny_pure (hQ _ _)))
    | exact wpAny_bind (wpAny_pure (wpAny_pure (wpAny_pure (hQ _ _))))
theorem call_bytes_ba {Q : Value → Shared → Prop} (hy : s.heap.get? y = some (baOf b)) (hz : b.size ≤ sizeLine) (hQ : ∀ t k, Q (.bytes b t) { s with toks := k }) : wpAny (model prog w) A (call (.type "bytes") [.ref y]) Q E s := by
  refine callType_codes (Q₁ := fun obj s₁ => s₁.TypeIs obj "bytes" ∧ Q obj s₁) PySem.F.bm_called (PySem.F.bm_typeCall _) PySem.F.entry_object_init
    (code_bytes_ba hy hz fun t k => ⟨PySem.W.typeIs_bytes _ _ _, hQ t k⟩) fun obj s₁ h₁ => ?_
  exact ⟨h₁.1, PySem.F.args_object_init_2 obj _, object_init_meets PySem.F.bm_called.init.lookup PySem.F.bm_called.made (by decide) prog w A.in1 _ s₁ ⟨h₁.1, rfl, h₁.2⟩⟩
end
end Mine
end
section
open PySem PySem.W PySem.Calls PyProof.Rows
set_option maxRecDepth 100000
set_option maxHeartbeats 4000000
namespace Mine
theorem offS2 : True := by
  w_top off
  trivial
theorem fragOnS2 : (fun (_ : OpenLaw) (_ : Params → Frag) => True) PySem.Challenge.rw_ez0261_01 hd.heap_39 := by
  k_fill
  trivial
local macro_rules | `(tactic| walk_at "call ref") => `(tactic| (k_here; (with_reducible show wpAny _ _ (call (Value.ref 35) [Value.int _ _, _]) _ _ _); k_dflt (refine' index_use ?k1 ?k2 ?k3 ?k4 ?k5 ?k6 ?k7 ?k8 ?_; (case k1 => k_asm); (case k2 => k_asm); (case k3 => k_asm); (case k4 => k_asm); (case k5 => exact rfl); (case k6 => (simp only [depth_deeper, depth_in1]; omega)); (case k7 => omega); (case k8 => omega); k_whole); intro h' tk' t' F' N'))
local macro_rules | `(tactic| walk_at "call ref") => `(tactic| (k_here; (with_reducible show wpAny _ _ (call (Value.ref 28) [Value.int _ _, _]) _ _ _); k_dflt (refine' whence_use ?k1 ?k2 ?k3 ?k4 ?k5 ?k6 ?k7 ?k8 ?_; (case k1 => k_asm); (case k2 => k_asm); (case k3 => k_asm); (case k4 => k_asm); (case k5 => exact rfl); (case k6 => (simp only [depth_deeper, depth_in1]; omega)); (case k7 => omega); (case k8 => omega); k_whole); intro h' tk' t' F' N'))
local macro_rules | `(tactic| walk_at "call ref") => `(tactic| (k_here; (show wpAny _ _ (call (Value.ref 116) [Value.ref _]) _ _ _); k_dflt (refine' check_use ?k1 ?k2 ?k3 ?k4 ?k5 ?k6 ?k7 ?k8 ?k9 ?_; (case k1 => k_asm); (case k2 => k_asm); (case k3 => k_asm); (case k4 => k_asm); (case k5 => exact rfl); (case k6 => (simp only [depth_deeper, depth_in1]; omega)); (case k7 => k_mem); (case k8 => k_mem); (case k9 => k_mem); k_whole); intro h' tk' F' N'))
local macro_rules | `(tactic| walk_at "call builtin:len") => `(tactic| (k_here; (with_reducible show wpAny _ _ (call (Value.builtin "len") [Value.ref _]) _ _ _); k_dflt (refine' ba_len (News.get (by k_asm) ?m) ?z ?_; (case m => k_mem); (case z => assumption); k_whole); intro t' tk'))
local macro_rules | `(tactic| walk_at "call type:bytes") => `(tactic| (k_here; (with_reducible show wpAny _ _ (call (Value.type "bytes") [Value.ref _]) _ _ _); k_dflt (refine' call_bytes_ba (News.get (by k_asm) ?m) ?z ?_; (case m => k_mem); (case z => exact Nat.le_trans (picked_le _ _ _) (by assumption)); k_whole); intro t' tk'))
local macro_rules | `(tactic| walk_at "subscriptTail") => `(tactic| (k_here; (with_reducible show wpAny _ _ (subscriptTail _ (Expr.Slice _ _ none _) (Value.ref _) (Value.ref _)) _ _ _); (with_reducible rename Fr _ _ _ _ => lF'); (with_reducible rename News _ _ _ _ => lN'); (refine ba_slice_K (s := ⟨_, _, _, _, _⟩) lF' lN' (by k_mem) (by assumption) ?_); intro z' h' F' N' l1; (try k_lt l1)))
section
variable {prog : Program} {w : World} {A : Around} {E : Value → Shared → Prop} {s : Shared} {p : Program} {loose : List Str} {mean : ExcName → Option Value} {mg mb : Str → Option Value} {h₀ : Heap} {dp un : Nat} {gd : Option (List Code)} {fr : Option (List Env)} {L : Addr} {m : Str → Option Value} {news : List (Addr × Obj)}
def rd (b : Array UInt8) (q n : Nat) : Array UInt8 := ((b.toList.drop q).take n).toArray
theorem rd_past {b : Array UInt8} {q : Int} (h : (b.size : Int) ≤ q) : rd b q.toNat 64 = #[] := by
  unfold rd
  rw [List.drop_eq_nil_of_le (by rw [Array.length_toList]; omega)]
  rfl
theorem clip_pos {n : Nat} {i : Int} (h : 0 ≤ i) : clipAt n i = min i.toNat n := by
  unfold clipAt
  rw [if_neg (by omega)]
  omega
theorem rd_full {b : Array UInt8} {q : Int} (h0 : 0 ≤ q) (h : q + 64 < b.size) : KBy.picked b (some q) (some (q + 64)) = rd b q.toNat 64 := by
  rw [KBc.picked_eq]
  unfold rd
  simp only [Option.elim]
  rw [clip_pos h0, clip_pos (by omega), Nat.min_eq_left (by omega), Nat.min_eq_left (by omega), show (q + 64).toNat - q.toNat = 64 from by omega]
theorem rd_part {b : Array UInt8} {q : Int} (h0 : 0 ≤ q) (h1 : q < b.size) (h : (b.size : Int) ≤ q + 64) : KBy.picked b (some q) (some (b.size : Int)) = rd b q.toNat 64 := by
  rw [KBc.picked_eq]
  unfold rd
  simp only [Option.elim]
  rw [clip_pos h0, clip_pos (by omega), Nat.min_eq_left (by omega), Nat.min_eq_left (by omega)]
  rw [List.take_of_length_le (by rw [List.length_drop, Array.length_toList]; omega), List.take_of_length_le (by rw [List.length_drop, Array.length_toList]; omega)]
theorem read_spec {R : Result → Shared → Prop} {x dx y : Addr} {b : Array UInt8} {q : Int} {t1 t2 tq tv : Tok} (Z : Base prog w p loose mean mg mb h₀ s.heap) (S : Strm w s.heap x dx y b q t1 t2 tq) (hx0 : h₀.get? x = none) (hdx0 : h₀.get? dx = none) (hy0 : h₀.get? y = none) (hdp : dp + 40 < recursionLimit)
    (h1 : 0 ≤ q) (hz : b.size ≤ sizeLine)
    (hR : ∀ h' tk t' t1' t2' tq', (∀ a o, a ≠ dx → s.heap.get? a = some o → h'.get? a = some o) → h'.get? dx = some (streamDict w y (max q (min (q + 64) b.size)) t1' t2' tq') → R (.ok (.ret (.bytes (rd b q.toNat 64) t'))) { s with heap := h', toks := tk }) :
    codeAny (model prog w) { handled := none, depth := dp, frames := fr, guards := gd, units := un } (.call (.ref 246) ⟨[.ref x, .int 64 tv], []⟩) R s := by
  have X0 : (hd.heap_39 w.params).In s.heap := Z.X.keeps Z.keep
  have n1 := S.ne1
  have n2 := S.ne2
  have n3 := S.ne3
  have hz2 : b.size ≤ 16777216 := by rw [sizeLine_eq] at hz; exact hz
  refine' call_but (bs := [(x, instObj 322 dx), (dx, streamDict w y q t1 t2 tq), (y, baOf b)]) Z ?hb ?k6 ?k7 ?k8 ?k9 ?kB ?_ ?c2 ?c3 ?c4 ?c5
  case hb => exact strm_bs S hx0 hdx0 hy0
  case k6 => k_is
  case k7 => k_is
  case k8 => show dp < recursionLimit; omega
  case k9 => first | exact BindsTo.of_eq rfl | exact binds_K X0 rfl (by k_is) rfl rfl rfl
  case kB => exact locs rfl
  case c5 => decide
  case c2 => exact rfl
  case c3 => exact rfl
  case c4 => exact rfl
  intro g L' h₁ Z' kg F N X T
  dsimp only [streamDict] at N
  k_steps
  all_goals (rename Fr _ _ _ _ => F9)
  all_goals (rename News _ _ _ _ => N9)
  · rw [rd_past (by omega), show max q (min (q + 64) (b.size : Int)) = q from by omega] at hR
    refine hR _ _ _ t1 t2 _ (keep_but (d := dx) (fun z hz => (strm_bs S hx0 hdx0 hy0 z hz).1) kg F9 N9 ?_) (News.get N9 (by k_mem))
    exact fun z hz _ => hz
  · rw [← rd_full h1 (by omega), show max q (min (q + 64) (b.size : Int)) = q + 64 from by omega] at hR
    refine hR _ _ _ t1 t2 _ (keep_but (d := dx) (fun z hz => (strm_bs S hx0 hdx0 hy0 z hz).1) kg F9 N9 ?_) (News.get N9 (by k_mem))
    intro z hz hne
    simp only [List.mem_cons, List.not_mem_nil, or_false] at hz
    rcases hz with rfl | rfl | rfl
    · k_mem
    · exact absurd rfl hne
    · k_mem
  · rw [← rd_part h1 (by omega) (by omega), show max q (min (q + 64) (b.size : Int)) = b.size from by omega] at hR
    refine hR _ _ _ t1 t2 _ (keep_but (d := dx) (fun z hz => (strm_bs S hx0 hdx0 hy0 z hz).1) kg F9 N9 ?_) (News.get N9 (by k_mem))
    intro z hz hne
    simp only [List.mem_cons, List.not_mem_nil, or_false] at hz
    rcases hz with rfl | rfl | rfl
    · k_mem
    · exact absurd rfl hne
    · k_mem
end
end Mine
end
section
open PySem PySem.W PySem.Calls PyProof.Rows Builtin
set_option maxRecDepth 100000
set_option maxHeartbeats 4000000
namespace Mine
theorem offP0 : True := by
  w_top off
  trivial
theorem extract_one {b : Array UInt8} {i : Nat} (h : i < b.size) : b.extract i (i + 1) = #[b[i]] := by
  apply Array.ext
  · simp; omega
  · intro j h1 h2
    simp at h2
    subst h2
    simp
theorem find_none {b : Array UInt8} (h : (0 : UInt8) ∉ b.toList) : Bytes.find? b #[0] 0 b.size = none := by
  unfold Bytes.find?
  rw [List.find?_eq_none]
  intro i hi
  simp only [List.mem_map, List.mem_range] at hi
  obtain ⟨j, hj, rfl⟩ := hi
  have hj' : j < b.size := by
    have : (#[(0 : UInt8)] : Array UInt8).size = 1 := rfl
    omega
  simp only [Nat.add_zero]
  show ¬ (b.extract j (j + 1) == #[0]) = true
  rw [extract_one hj']
  intro e
  have e2 : b[j] = 0 := by simpa using e
  exact h (by rw [← e2]; exact Array.getElem_mem_toList hj')
theorem find_some {b : Array UInt8} (h : (0 : UInt8) ∈ b.toList) : ∃ i, Bytes.find? b #[0] 0 b.size = some i ∧ b.extract 0 i = (b.toList.takeWhile (· != 0)).toArray := by
  have key : ∀ l : List UInt8, (0 : UInt8) ∈ l → ∃ i, i < l.length ∧ l[i]? = some 0 ∧ (∀ j, j < i → l[j]? ≠ some 0) ∧ l.take i = l.takeWhile (· != 0) := by
    intro l
    induction l with
    | nil => intro h; cases h
    | cons a r ih =>
      intro h
      by_cases ha : a = 0
      · exact ⟨0, by simp, by simp [ha], fun j hj => by omega, by simp [ha]⟩
      · have h' : (0 : UInt8) ∈ r := by
          rcases List.mem_cons.mp h with e | e
          · exact absurd e.symm ha
          · exact e
        obtain ⟨i, h1, h2, h3, h4⟩ := ih h'
        refine ⟨i + 1, by simpa using h1, by simpa using h2, fun j hj => ?_, ?_⟩
        · cases j with
          | zero => simpa using ha
          | succ j => simpa using h3 j (by omega)
        · rw [List.take_succ_cons, h4, List.takeWhile_cons]
          simp [ha]
  obtain ⟨i, h1, h2, h3, h4⟩ := key _ h
  have hi : i < b.size := by simpa using h1
  refine ⟨i, ?_, ?_⟩
  · unfold Bytes.find?
    have hn : b.size + 1 - (0 + (#[(0 : UInt8)] : Array UInt8).size) = b.size := by
      have : (#[(0 : UInt8)] : Array UInt8).size = 1 := rfl
      omega
    rw [hn]
    have hm : (List.range b.size).map (· + 0) = List.range b.size := by simp
    rw [hm, List.find?_range_eq_some]
    refine ⟨?_, by simpa using hi, ?_⟩
    · show (b.extract i (i + 1) == #[0]) = true
      rw [extract_one hi]
      have : b[i] = 0 := by
        rw [Array.getElem?_toList, Array.getElem?_eq_getElem hi] at h2
        exact Option.some.inj h2
      simp [this]
    · intro j hj
      have hj' : j < b.size := by omega
      show (!(b.extract j (j + 1) == #[0])) = true
      rw [extract_one hj']
      have := h3 j hj
      rw [Array.getElem?_toList, Array.getElem?_eq_getElem hj'] at this
      have h5 : b[j] ≠ 0 := fun e => this (by rw [e])
      simp [h5]
  · rw [← h4]
    apply Array.ext'
    simp [Array.toList_extract, List.extract]

theorem slot_by_part : Slot "bytes" "partition" "bytes.partition" :=
  .of (owner := "bytes") (n := "partition") (by rw [typeLookup_type, builtinLookup_eq_fast]; kernel_rfl) (by decide +kernel) (by decide +kernel) (by decide +kernel)
    (by first | exact .inl (by decide +kernel) | exact .inr (by decide +kernel)) (by rw [isSubtype_type]; kernel_rfl)
theorem type_by_part : typeOf (.builtin "bytes.partition") = pure (.type "method_descriptor") := by show builtinType _ = _; rw [builtinType_eq_fast]; kernel_rfl
theorem entry_by_part : entryFor table "bytes.partition" = some Builtin.«bytes.partition» := entryFor_of_tree (by kernel_rfl)
theorem args_by_part (a b : Value) : argsOk "bytes.partition" ⟨[a, b], []⟩ := by unfold argsOk; kernel_rfl
theorem slot_by_join : Slot "bytes" "join" "bytes.join" :=
  .of (owner := "bytes") (n := "join") (by rw [typeLookup_type, builtinLookup_eq_fast]; kernel_rfl) (by decide +kernel) (by decide +kernel) (by decide +kernel)
    (by first | exact .inl (by decide +kernel) | exact .inr (by decide +kernel)) (by rw [isSubtype_type]; kernel_rfl)
theorem type_by_join : typeOf (.builtin "bytes.join") = pure (.type "method_descriptor") := by show builtinType _ = _; rw [builtinType_eq_fast]; kernel_rfl
theorem entry_by_join : entryFor table "bytes.join" = some Builtin.«bytes.join» := entryFor_of_tree (by kernel_rfl)
theorem args_by_join (a b : Value) : argsOk "bytes.join" ⟨[a, b], []⟩ := by unfold argsOk; kernel_rfl

abbrev tup3 (a b c : Value) : Obj := { cls := .type "tuple", data := .seq [a, b, c].toArray }
/-- what partition at the nought gives -/
theorem meets_part (b : Array UInt8) (t u : Tok) :
    Meets («bytes.partition» ⟨[.bytes b t, .bytes #[0] u], []⟩) (fun _ R s => b.size ≤ sizeLine ∧
      ((0 : UInt8) ∉ b.toList → ∀ te k, R (.ok (.ret (.ref s.heap.objs.size))) { s with heap := s.heap.push (tup3 (.bytes b t) (.bytes #[] te) (.bytes #[] te)), toks := k }) ∧
      ((0 : UInt8) ∈ b.toList → ∀ ta tb k (r : Array UInt8), R (.ok (.ret (.ref s.heap.objs.size))) { s with heap := s.heap.push (tup3 (.bytes (b.toList.takeWhile (· != 0)).toArray ta) (.bytes #[0] u) (.bytes r tb)), toks := k })) := by
  refine .of_wp fun prog w A R s hS => ?_
  obtain ⟨hz, h0, h1⟩ := hS
  show wpAny _ _ (Bytes.buffer? _ (.bytes #[0] u) _ >>= fun r => _) _ _ s
  refine wpAny_bind (by_bufferQ ?_)
  refine bm_if_false rfl ?_
  show wpAny _ _ (Bytes.payload (.bytes b t) >>= fun r => _) _ _ s
  refine wpAny_bind (wpAny_of_eq (a := b) rfl ?_)
  by_cases hm : (0 : UInt8) ∈ b.toList
  · obtain ⟨i, e1, e2⟩ := find_some hm
    show wpAny _ _ (match Bytes.find? b #[0] 0 b.size with | some i => _ | none => _) _ _ s
    rw [e1]
    have hi : (b.toList.takeWhile (· != 0)).toArray.size ≤ sizeLine := by
      rw [List.size_toArray]
      have := (List.takeWhile_sublist (p := (· != (0 : UInt8))) (l := b.toList)).length_le
      rw [Array.length_toList] at this
      exact Nat.le_trans this hz
    refine bm_if_true rfl ?_
    refine wpAny_bind (wpAny_pure ?_)
    refine wpAny_bind (m := mkBytes (b.extract 0 i)) ?_
    rw [e2]
    refine wpAny_mkBytes ?_ hi
    refine wpAny_bind (m := mkBytes (b.extract (i + 1) b.size)) (wpAny_mkBytes ?_ ?_)
    · refine wpAny_bind (wpAny_newObj_type ?_ (by show (3 : Nat) ≤ sizeLine; rw [sizeLine_eq]; decide))
      exact wpAny_pure ⟨_, rfl, h1 hm _ _ _ _⟩
    · rw [Array.size_extract]
      omega
  · show wpAny _ _ (match Bytes.find? b #[0] 0 b.size with | some i => _ | none => _) _ _ s
    rw [find_none hm]
    refine wpAny_bind (wpAny_rule ?_)
    refine bm_if_true rfl ?_
    refine wpAny_bind (wpAny_pure ?_)
    refine wpAny_bind (m := mkBytes #[]) (wpAny_mkBytes ?_ (Nat.zero_le _))
    refine bm_if_true rfl ?_
    refine wpAny_bind (wpAny_pure ?_)
    refine wpAny_bind (wpAny_newObj_type ?_ (by show (3 : Nat) ≤ sizeLine; rw [sizeLine_eq]; decide))
    exact wpAny_pure ⟨_, rfl, h0 hm _ _⟩
end Mine
end
section
open PySem PySem.W PySem.Calls PyProof.Rows Builtin
set_option maxRecDepth 100000
set_option maxHeartbeats 4000000
namespace Mine
theorem offP1 : True := by
  w_top off
  trivial
abbrev byV (p : Array UInt8 × Tok) : Value := .bytes p.1 p.2
section
variable {prog : Program} {w : World} {A : Around} {E : Value → Shared → Prop} {s : Shared}
theorem by_takeQuiet {id : String} {b : Array UInt8} {t : Tok} {Q : Option (Array UInt8 × Option Value) → Shared → Prop} (h : Q (some (b, none)) s) : wpAny (model prog w) A (Builtin.Bytes.takeBufferQuiet? id (.bytes b t) 0) Q E s := by
  unfold Builtin.Bytes.takeBufferQuiet?
  refine wpAny_bind (wpAny_attempt ?_)
  unfold Builtin.Bytes.takeBuffer?
  refine wpAny_bind (wpAny_specialOf (typeIs_bytes _ _ _) by_buffer ?_)
  dsimp only
  unfold Builtin.Bytes.slotIsOwn
  refine wpAny_bind (wpAny_bind ?_)
  refine wpAny_specialOf (typeIs_bytes _ _ _) by_buffer ?_
  dsimp only
  refine bm_if_false (by decide +kernel) ?_
  rw [show ((("bytes.__buffer__" : String).dropRight ("__buffer__".length + 1))) = "bytes" from by decide +kernel]
  refine wpAny_isInstance (b := true) (typeIs_bytes _ _ _) by_sub ?_
  refine bm_if_false rfl ?_
  refine wpAny_bind (wpAny_specialOf (typeIs_bytes _ _ _) by_buffer ?_)
  show wpAny _ _ (Bytes.buffer? id (.bytes b t) _ >>= fun r => _) _ _ _
  refine wpAny_bind (by_bufferQ ?_)
  exact wpAny_pure (wpAny_pure h)
theorem joinLet (cs : List (Array UInt8 × Tok)) (keep : List Value) {Q : Unit → Shared → Prop} (h : Q () s) : wpAny (model prog w) A (Bytes.joinLetGo (cs.map fun p => (byV p, none)) keep) Q E s := by
  induction cs with
  | nil => exact wpAny_pure h
  | cons c r ih =>
    show wpAny _ _ (letGo _ _ >>= fun _ => Bytes.joinLetGo (r.map fun p => (byV p, none)) keep) _ _ _
    exact wpAny_bind (wpAny_letGo ih)
end
def catB (cs : List (Array UInt8 × Tok)) : Array UInt8 := (cs.flatMap fun p => p.1.toList).toArray
theorem foldl_size (l : List (Array UInt8)) (a : Nat) : l.foldl (fun x y => x + y.size) a = a + (l.flatMap fun p => p.toList).length := by
  induction l generalizing a with
  | nil => simp
  | cons c r ih => simp [ih]; omega
theorem joined_nil (l : List (Array UInt8)) : Bytes.joined #[] l = (l.flatMap fun p => p.toList).toArray := by
  have key : ∀ (l : List (Array UInt8)) (k : Nat) (a : Array UInt8), (l.zipIdx k).foldl (fun out (p, i) => (if i > 0 then out ++ #[] else out) ++ p) a = a ++ (l.flatMap fun p => p.toList).toArray := by
    intro l
    induction l with
    | nil => intro k a; simp
    | cons c r ih =>
      intro k a
      rw [List.zipIdx_cons, List.foldl_cons, ih]
      apply Array.ext'
      by_cases hk : k > 0 <;> simp [hk]
  unfold Bytes.joined
  rw [key l 0 #[]]
  simp
theorem flat_map (cs : List (Array UInt8 × Tok)) : ((cs.map (·.1)).flatMap fun p => p.toList) = cs.flatMap fun p => p.1.toList := by
  induction cs with
  | nil => rfl
  | cons c r ih => simp [ih]
/-- what joining at nothing gives -/
theorem meets_join (D : Addr) (cs : List (Array UInt8 × Tok)) (k : Nat) (u : Tok) :
    Meets («bytes.join» ⟨[.bytes #[] u, .ref D], []⟩) (fun _ R s => s.heap.get? D = some (W.listOf (cs.map byV).toArray k) ∧ (catB cs).size ≤ sizeLine ∧
      ∀ t j, R (.ok (.ret (.bytes (catB cs) t))) { s with toks := j }) := by
  refine .of_wp fun prog w A R s hS => ?_
  obtain ⟨hD, hz, h⟩ := hS
  have hT : s.TypeIs (.ref D) "list" := ⟨_, hD, rfl⟩
  show wpAny _ _ (Bytes.joinItems (.ref D) >>= fun r => _) _ _ s
  refine wpAny_bind ?_
  unfold Bytes.joinItems
  refine wpAny_bind (wpAny_typeOf hT ?_)
  refine bm_if_true rfl ?_
  refine wpAny_pure ?_
  have sq : ∀ {Q : Option (Array Value) → Shared → Prop}, Q (some (cs.map byV).toArray) s → wpAny (model prog w) A.in1 (seqItems? (.ref D)) Q (fun e s' => R (.error e) s') s := by
    intro Q q
    unfold seqItems?
    exact wpAny_bind (wpAny_load hD (wpAny_pure q))
  refine wpAny_bind (sq ?_)
  dsimp only
  refine bm_if_true rfl ?_
  by_cases hone : cs.length = 1
  · obtain ⟨c, rfl⟩ := List.length_eq_one_iff.mp hone
    show wpAny _ _ (typeOf (byV c) >>= _) _ _ _
    refine wpAny_bind (wpAny_typeOf (typeIs_bytes _ _ _) ?_)
    refine bm_if_true rfl ?_
    refine wpAny_bind (wpAny_rule ?_)
    refine wpAny_pure ⟨byV c, rfl, ?_⟩
    have e : catB [c] = c.1 := by simp [catB]
    have := h c.2 s.toks
    rw [e] at this
    exact this
  · have hm : ∀ {β : Type} (f : Value → β) (g : β), (match (cs.map byV).toArray with | #[x] => f x | _ => g) = g := by
      intro β f g
      rcases cs with _ | ⟨c, _ | ⟨c2, r⟩⟩
      · rfl
      · exact absurd rfl hone
      · rfl
    refine Eq.mpr (congrArg (fun t => wpAny (model prog w) A.in1 t _ _ s) (hm _ _)) ?_
    refine wpAny_bind ?_
    rw [Std.Legacy.Range.forIn_eq_forIn_range']
    refine wpAny_forIn_list _ (fun rest acc s' => s' = s ∧ ∃ i, i + rest.length = cs.length ∧ rest = List.range' i rest.length ∧ acc = (((cs.take i).map (·.1)).toArray, (cs.take i).map fun p => (byV p, none))) _ ?_ ?_ _ _ ?_
    · rintro j rest acc s' ⟨rfl, i, hi, hr, rfl⟩
      have hij : j = i := by
        rw [List.length_cons, List.range'_succ] at hr
        exact (List.cons.inj hr).1
      subst hij
      have hr2 : rest = List.range' (j + 1) rest.length := by
        rw [List.length_cons, List.range'_succ] at hr
        exact (List.cons.inj hr).2
      have hj : j < cs.length := by rw [List.length_cons] at hi; omega
      refine wpAny_bind (sq ?_)
      dsimp only
      refine bm_if_false ?_ ?_
      · show (false || ((cs.take j).map fun p => (byV p, (none : Option Value))).any (·.1.onHeap)) = false
        rw [Bool.false_or, List.any_eq_false]
        intro x hx
        obtain ⟨p, _, rfl⟩ := List.mem_map.mp hx
        exact Bool.false_ne_true
      have hx : (cs.map byV).toArray.getD j Value.none = byV cs[j] := by simp [hj]
      rw [hx]
      refine wpAny_bind (wpAny_holding (by_takeQuiet ?_))
      dsimp only
      refine wpAny_bind (sq ?_)
      dsimp only
      refine bm_if_false (by simp) ?_
      refine wpAny_pure ?_
      refine ⟨rfl, j + 1, by rw [List.length_cons] at hi; omega, hr2, ?_⟩
      have e : cs.take (j + 1) = cs.take j ++ [cs[j]] := by rw [List.take_succ, List.getElem?_eq_getElem hj]; rfl
      rw [e, List.map_append, List.map_append]
      simp
    · rintro acc s' ⟨rfl, i, hi, hr, rfl⟩
      have hi' : i = cs.length := by simpa using hi
      subst hi'
      rw [List.take_length]
      dsimp only
      show wpAny _ _ (Bytes.payload (.bytes #[] u) >>= fun r => _) _ _ s'
      refine wpAny_bind (wpAny_of_eq (a := (#[] : Array UInt8)) rfl ?_)
      refine bm_if_false ?_ ?_
      · unfold Bytes.tooLong
        rw [← Array.foldl_toList, foldl_size, flat_map]
        have hc : (catB cs).size = (cs.flatMap fun p => p.1.toList).length := by rw [catB, List.size_toArray]
        rw [← hc, show (#[] : Array UInt8).size = 0 from rfl, Nat.zero_mul, Nat.zero_add]
        exact decide_eq_false (Nat.not_lt.mpr hz)
      have ej : Bytes.joined #[] ((cs.map (·.1)).toArray.toList) = catB cs := by
        rw [joined_nil, flat_map]; rfl
      rw [ej]
      refine wpAny_bind (m := mkBytes (catB cs)) (wpAny_mkBytes ?_ hz)
      refine wpAny_bind (wpAny_holding (wpAny_point ?_))
      refine wpAny_bind (joinLet _ _ ?_)
      exact wpAny_pure ⟨_, rfl, h _ _⟩
    · refine ⟨rfl, 0, ?_, ?_, ?_⟩
      · simp
      · simp
      · simp
end Mine
end
section
open PySem PySem.W PySem.Calls PyProof.Rows Builtin
set_option maxRecDepth 100000
set_option maxHeartbeats 4000000
namespace Mine
theorem offP2 : True := by
  w_top off
  trivial
theorem fr_but {h₀ h h' : Heap} {L d : Addr} {m : Str → Option Value} (F : Fr h₀ L h m) (k : ∀ a o, a ≠ d → h.get? a = some o → h'.get? a = some o) (h0 : h₀.get? d = none) (hL : d ≠ L) : Fr h₀ L h' m := by
  obtain ⟨oL, es, ep, gL, r⟩ := F.ns
  refine ⟨⟨oL, es, ep, k _ _ (Ne.symm hL) gL, r⟩, fun a o e => k a o ?_ (F.keep a o e), F.above⟩
  rintro rfl
  rw [h0] at e
  cases e
theorem news_but {h₀ h h' : Heap} {L d : Addr} {o o' : Obj} {news : List (Addr × Obj)} {g : Obj → List (Addr × Obj)} (N : News h₀ L h news) (U : UpdF d o news g) (k : ∀ a o, a ≠ d → h.get? a = some o → h'.get? a = some o) (hd : h'.get? d = some o') : News h₀ L h' (g o') := by
  obtain ⟨pre, post, rfl, hg, h1, h2⟩ := U.split
  rw [hg]
  intro p hp
  rcases List.mem_append.mp hp with q | q
  · exact ⟨k _ _ (h1 p q) (N p (List.mem_append_left _ q)).1, (N p (List.mem_append_left _ q)).2⟩
  · rcases List.mem_cons.mp q with rfl | q
    · exact ⟨hd, (N (d, o) (List.mem_append_right _ (.head _))).2⟩
    · exact ⟨k _ _ (h2 p q) (N p (List.mem_append_right _ (.tail _ q))).1, (N p (List.mem_append_right _ (.tail _ q))).2⟩
theorem upd_mem {d : Addr} {o : Obj} {news : List (Addr × Obj)} {g : Obj → List (Addr × Obj)} (U : UpdF d o news g) : (d, o) ∈ news := by
  obtain ⟨pre, post, rfl, _⟩ := U.split
  exact List.mem_append_right _ (.head _)
section
variable {prog : Program} {w : World} {A : Around} {E : Value → Shared → Prop} {s : Shared} {p : Program} {loose : List Str} {mean : ExcName → Option Value} {mg mb : Str → Option Value} {h₀ : Heap} {L : Addr} {m : Str → Option Value} {news : List (Addr × Obj)} {g : Obj → List (Addr × Obj)}
theorem seek_use {x dx y : Addr} {b : Array UInt8} {q v : Int} {t1 t2 tq tv : Tok} {Q : Value → Shared → Prop} (F : Fr h₀ L s.heap m) (X : (hd.heap_39 w.params).In h₀) (T : Top p loose mean mg mb h₀) (N : News h₀ L s.heap news) (hA : A.handled = none) (hd : A.depth + 40 < recursionLimit)
    (m1 : (x, instObj 322 dx) ∈ news) (U : UpdF dx (streamDict w y q t1 t2 tq) news g) (m3 : (y, baOf b) ∈ news) (h1 : 0 ≤ v) (h2 : v ≤ 1099511627776)
    (h : ∀ h' tk t' t1' t2' tq', Fr h₀ L h' m → News h₀ L h' (g (streamDict w y v t1' t2' tq')) → Q (.int (v + 0) t') { s with heap := h', toks := tk }) : wpAny (model prog w) A (call (.ref 230) [.ref x, .int v tv]) Q E s := by
  obtain ⟨hd', dp, fr, gd, un⟩ := A
  subst hA
  have m2 := upd_mem U
  exact wpAny_call (seek_spec ⟨F.keep, X, T⟩ (x := x) (dx := dx) (y := y) (b := b) (q := q) (t1 := t1) (t2 := t2) (tq := tq) ⟨(N _ m1).1, (N _ m2).1, (N _ m3).1⟩ (N _ m1).2.2 (N _ m2).2.2 (N _ m3).2.2 hd h1 h2
    fun h' tk t' t1' t2' tq' k e => h h' tk t' t1' t2' tq' (fr_but F k (N _ m2).2.2 (N _ m2).2.1) (news_but N U k e))
theorem read_use {x dx y : Addr} {b : Array UInt8} {q : Int} {t1 t2 tq tv : Tok} {Q : Value → Shared → Prop} (F : Fr h₀ L s.heap m) (X : (hd.heap_39 w.params).In h₀) (T : Top p loose mean mg mb h₀) (N : News h₀ L s.heap news) (hA : A.handled = none) (hd : A.depth + 40 < recursionLimit)
    (m1 : (x, instObj 322 dx) ∈ news) (U : UpdF dx (streamDict w y q t1 t2 tq) news g) (m3 : (y, baOf b) ∈ news) (h1 : 0 ≤ q) (hz : b.size ≤ sizeLine)
    (h : ∀ h' tk t' t1' t2' tq', Fr h₀ L h' m → News h₀ L h' (g (streamDict w y (max q (min (q + 64) b.size)) t1' t2' tq')) → Q (.bytes (rd b q.toNat 64) t') { s with heap := h', toks := tk }) : wpAny (model prog w) A (call (.ref 246) [.ref x, .int 64 tv]) Q E s := by
  obtain ⟨hd', dp, fr, gd, un⟩ := A
  subst hA
  have m2 := upd_mem U
  exact wpAny_call (read_spec ⟨F.keep, X, T⟩ (x := x) (dx := dx) (y := y) (b := b) (q := q) (t1 := t1) (t2 := t2) (tq := tq) (tv := tv) ⟨(N _ m1).1, (N _ m2).1, (N _ m3).1⟩ (N _ m1).2.2 (N _ m2).2.2 (N _ m3).2.2 hd h1 hz
    fun h' tk t' t1' t2' tq' k e => h h' tk t' t1' t2' tq' (fr_but F k (N _ m2).2.2 (N _ m2).2.1) (news_but N U k e))
theorem part_K {b : Array UInt8} {t u : Tok} {Q : Value → Shared → Prop} (F : Fr h₀ L s.heap m) (N : News h₀ L s.heap news) (hz : b.size ≤ sizeLine)
    (h : ∀ z h' tk (c1 c2 c3 : Array UInt8) ta tb tc, Fr h₀ L h' m → News h₀ L h' ((z, tup3 (.bytes c1 ta) (.bytes c2 tb) (.bytes c3 tc)) :: news) → (∀ p ∈ news, p.1 < z) →
      (((0 : UInt8) ∉ b.toList ∧ c1 = b ∧ c2 = #[]) ∨ ((0 : UInt8) ∈ b.toList ∧ c1 = (b.toList.takeWhile (· != 0)).toArray ∧ c2 = #[0])) → Q (.ref z) { s with heap := h', toks := tk }) :
    wpAny (model prog w) A (call (.builtin "bytes.partition") [.bytes b t, .bytes #[0] u]) Q E s := by
  refine call_meets slot_by_part (typeIs_bytes _ _ _) entry_by_part (args_by_part _ _) (meets_part b t u) ⟨hz, fun h0 te k => ?_, fun h0 ta tb k r => ?_⟩
  · exact h _ _ _ _ _ _ _ _ _ (F.push _) (N.push F _) (fun p hp => Heap.lt_size (N p hp).1) (.inl ⟨h0, rfl, rfl⟩)
  · exact h _ _ _ _ _ _ _ _ _ (F.push _) (N.push F _) (fun p hp => Heap.lt_size (N p hp).1) (.inr ⟨h0, rfl, rfl⟩)
theorem join_K {D : Addr} {cs : List (Array UInt8 × Tok)} {k : Nat} {u : Tok} {Q : Value → Shared → Prop} (hD : s.heap.get? D = some (W.listOf (cs.map byV).toArray k)) (hz : (catB cs).size ≤ sizeLine)
    (h : ∀ t j, Q (.bytes (catB cs) t) { s with toks := j }) : wpAny (model prog w) A (call (.builtin "bytes.join") [.bytes #[] u, .ref D]) Q E s :=
  call_meets slot_by_join (typeIs_bytes _ _ _) entry_by_join (args_by_join _ _) (meets_join D cs k u) ⟨hD, hz, h⟩
theorem meth_part {M : Model} {b : Array UInt8} {t : Tok} {pl : Sem Bool} {Q : Value × List Value → Shared → Prop} (h : Q (.builtin "bytes.partition", [.bytes b t]) s) : wpAny M A (getMethod (.bytes b t) "partition" pl) Q E s := by
  with_reducible exact KBd.method_of (.bytes b t) (typeIs_bytes _ _ _) slot_by_part type_by_part KBd.noRef h
theorem meth_join {M : Model} {b : Array UInt8} {t : Tok} {pl : Sem Bool} {Q : Value × List Value → Shared → Prop} (h : Q (.builtin "bytes.join", [.bytes b t]) s) : wpAny M A (getMethod (.bytes b t) "join" pl) Q E s := by
  with_reducible exact KBd.method_of (.bytes b t) (typeIs_bytes _ _ _) slot_by_join type_by_join KBd.noRef h
end
end Mine
end
section
open PySem PySem.W PySem.Calls PyProof.Rows Builtin
set_option maxRecDepth 100000
set_option maxHeartbeats 4000000
namespace Mine
theorem offP3 : True := by
  w_top off
  trivial
section
variable {prog : Program} {w : World} {A : Around} {E : Value → Shared → Prop} {s : Shared} {h₀ : Heap} {L : Addr} {m : Str → Option Value} {news : List (Addr × Obj)} {g : Obj → List (Addr × Obj)}
theorem append_bytes {D : Addr} {cs : List (Array UInt8 × Tok)} {n : Nat} {c : Array UInt8} {t : Tok} {Q : Value → Shared → Prop} (F : Fr h₀ L s.heap m) (N : News h₀ L s.heap news) (U : UpdF D (PySem.W.listOf (cs.map byV).toArray n) news g) (hz : cs.length ≤ 16777216)
    (h : ∀ h', Fr h₀ L h' m → News h₀ L h' (g (PySem.W.listOf ((cs ++ [(c, t)]).map byV).toArray (n + 1))) → Q .none { s with heap := h' }) :
    wpAny (model prog w) A (call (.builtin "list.append") [.ref D, .bytes c t]) Q E s := by
  have md := N _ (upd_mem U)
  refine append_at md.1 (fun h' hs hd => ?_) (by rw [List.size_toArray, List.length_map, sizeLine_eq]; exact hz)
  have e : (cs.map byV).toArray.push (.bytes c t) = ((cs ++ [(c, t)]).map byV).toArray := by simp
  rw [e] at hd
  refine h h' (F.change hs md.2.1 md.2.2) (news_but N U (fun a o ha e => ?_) hd)
  exact (hs.2 a ha).trans e
end
theorem cstr_hit (l : List UInt8) (k : Nat) (h0 : (0 : UInt8) ∉ l.take k) (h : (0 : UInt8) ∈ (l.drop k).take 64) :
    (0 : UInt8) ∈ l ∧ l.take k ++ ((l.drop k).take 64).takeWhile (· != 0) = l.takeWhile (· != 0) := by
  refine ⟨List.mem_of_mem_drop (List.mem_of_mem_take h), ?_⟩
  have e1 : ∀ (a : List UInt8) (c : List UInt8), (0 : UInt8) ∈ a → (a ++ c).takeWhile (· != 0) = a.takeWhile (· != 0) := by
    intro a c ha
    induction a with
    | nil => cases ha
    | cons x r ih =>
      rw [List.cons_append, List.takeWhile_cons, List.takeWhile_cons]
      by_cases hx : x = 0
      · simp [hx]
      · rcases List.mem_cons.mp ha with e | e
        · exact absurd e.symm hx
        · rw [ih e]
  have e2 : ∀ (a c : List UInt8), (0 : UInt8) ∉ a → (a ++ c).takeWhile (· != 0) = a ++ c.takeWhile (· != 0) := by
    intro a c ha
    induction a with
    | nil => rfl
    | cons x r ih =>
      have hx : x ≠ 0 := fun e => ha (by rw [e]; exact .head _)
      rw [List.cons_append, List.takeWhile_cons, ih (fun e => ha (.tail _ e))]
      simp [hx]
  have h2 := e1 ((l.drop k).take 64) ((l.drop k).drop 64) h
  rw [List.take_append_drop] at h2
  rw [← h2, ← e2 _ _ h0, List.take_append_drop]
theorem cstr_miss (l : List UInt8) (k : Nat) (h0 : (0 : UInt8) ∉ l.take k) (h : (0 : UInt8) ∉ (l.drop k).take 64) (hl : ((l.drop k).take 64).length < 64) : (0 : UInt8) ∉ l := by
  have e : (l.drop k).take 64 = l.drop k := List.take_of_length_le (by rw [List.length_take] at hl; omega)
  rw [e] at h
  intro hm
  rw [← List.take_append_drop k l] at hm
  rcases List.mem_append.mp hm with q | q
  · exact h0 q
  · exact h q
theorem cstr_next (l : List UInt8) (k : Nat) (h0 : (0 : UInt8) ∉ l.take k) (h : (0 : UInt8) ∉ (l.drop k).take 64) : (0 : UInt8) ∉ l.take (k + 64) := by
  rw [List.take_add]
  intro hm
  rcases List.mem_append.mp hm with q | q
  · exact h0 q
  · exact h q
theorem rd_eq {b : Array UInt8} {v : Int} {k : Nat} {q : Int} (h : q = v + 64 * k) (hv : 0 ≤ v) : (rd b q.toNat 64).toList = ((b.toList.drop v.toNat).drop (64 * k)).take 64 := by
  unfold rd
  rw [List.drop_drop, show v.toNat + 64 * k = q.toNat from by omega]
theorem catB_snoc (cs : List (Array UInt8 × Tok)) (c : Array UInt8) (t : Tok) : catB (cs ++ [(c, t)]) = catB cs ++ c := by
  unfold catB
  rw [List.flatMap_append]
  apply Array.ext'
  simp
theorem rd_line (b : Array UInt8) (q : Nat) : (rd b q 64).size ≤ sizeLine := by
  unfold rd
  rw [List.size_toArray, List.length_take, sizeLine_eq]
  omega
theorem rd_line2 (b : Array UInt8) (q : Nat) : (rd b q 64).size ≤ 16777216 := by
  unfold rd
  rw [List.size_toArray, List.length_take]
  omega
end Mine
end
section
open PySem PySem.W PySem.Calls PyProof.Rows
set_option maxRecDepth 100000
set_option maxHeartbeats 4000000
namespace Mine
theorem offS3 : True := by
  w_top off
  trivial
theorem fragOnS3 : (fun (_ : OpenLaw) (_ : Params → Frag) => True) PySem.Challenge.rw_ez0261_01 hd.heap_39 := by
  k_fill
  trivial
theorem cat_line {b : Array UInt8} {v q : Int} {cs : List (Array UInt8 × Tok)} {c : Array UInt8} {t : Tok} (hz : b.size ≤ sizeLine) (hcat : catB cs = ((b.toList.drop v.toNat).take (64 * cs.length)).toArray) (hq : q = v + 64 * cs.length)
    (hc : c = ((rd b q.toNat 64).toList.takeWhile (· != 0)).toArray) (hv : 0 ≤ v) : (catB (cs ++ [(c, t)])).size ≤ sizeLine := by
  have e := (List.takeWhile_sublist (p := (· != (0 : UInt8))) (l := (rd b q.toNat 64).toList)).length_le
  rw [rd_eq hq hv, List.length_take, List.length_drop, List.length_drop, Array.length_toList (xs := b)] at e
  rw [catB_snoc, Array.size_append, hcat, hc, List.size_toArray, List.size_toArray, List.length_take, List.length_drop, Array.length_toList (xs := b), rd_eq hq hv]
  omega
theorem truthy_b0 {prog : Program} {w : World} {A : Around} {E : Value → Shared → Prop} {s : Shared} {t : Tok} {Q : Bool → Shared → Prop} (h : ∀ k, Q false { s with toks := k }) : wpAny (model prog w) A (truthy (.bytes #[] t)) Q E s :=
  truthy_bytes (by decide) (h _)
theorem truthy_b1 {prog : Program} {w : World} {A : Around} {E : Value → Shared → Prop} {s : Shared} {t : Tok} {Q : Bool → Shared → Prop} (h : ∀ k, Q true { s with toks := k }) : wpAny (model prog w) A (truthy (.bytes #[0] t)) Q E s :=
  truthy_bytes (by decide) (h _)
def Still (P : Prop) : Prop := P
theorem Still.of {P : Prop} (h : Still P) : P := h
local macro_rules | `(tactic| walk_at "KswEnd") => `(tactic| (k_here; with_reducible apply Still.of))
local macro_rules | `(tactic| walk_at "truthy bytes") => `(tactic| (k_here; (first | (refine truthy_b0 ?_) | (refine truthy_b1 ?_)); intro tk'))
local macro_rules | `(tactic| walk_at "call ref") => `(tactic| (k_here; (show wpAny _ _ (call (Value.ref 230) [Value.ref _, Value.int _ _]) _ _ _); k_dflt (refine' seek_use ?k1 ?k2 ?k3 ?k4 ?k5 ?k6 ?k7 ?k8 ?k9 ?ka ?kb ?_; (case k1 => k_asm); (case k2 => k_asm); (case k3 => k_asm); (case k4 => k_asm); (case k5 => exact rfl); (case k6 => (simp only [depth_deeper, depth_in1]; omega)); (case k7 => k_mem); (case k8 => k_updF); (case k9 => k_mem); (case ka => omega); (case kb => omega); k_whole); intro h' tk' t' t1' t2' tq' F' N'; (try dsimp only at N')))
local macro_rules | `(tactic| walk_at "call ref") => `(tactic| (k_here; (show wpAny _ _ (call (Value.ref 246) [Value.ref _, Value.int 64 _]) _ _ _); k_dflt (refine' read_use ?k1 ?k2 ?k3 ?k4 ?k5 ?k6 ?k7 ?k8 ?k9 ?ka ?kb ?_; (case k1 => k_asm); (case k2 => k_asm); (case k3 => k_asm); (case k4 => k_asm); (case k5 => exact rfl); (case k6 => (simp only [depth_deeper, depth_in1]; omega)); (case k7 => k_mem); (case k8 => k_updF); (case k9 => k_mem); (case ka => omega); (case kb => assumption); k_whole); intro h' tk' t' t1' t2' tq' F' N'; (try dsimp only at N')))
local macro_rules | `(tactic| walk_at "getMethod bytes") => `(tactic| (k_here; (with_reducible first | refine meth_part ?_ | refine meth_join ?_)))
local macro_rules | `(tactic| walk_at "call builtin:bytes.partition") => `(tactic| (k_here; (with_reducible show wpAny _ _ (call (Value.builtin "bytes.partition") [Value.bytes (rd _ _ _) _, Value.bytes _ _]) _ _ _); k_dflt (refine' part_K ?k1 ?k2 ?k3 ?_; (case k1 => k_asm); (case k2 => k_asm); (case k3 => exact rd_line _ _); k_whole); intro z' h' tk' c1 c2 c3 ta tb tc F' N' l1 hpart; (try k_lt l1); rcases hpart with ⟨hnone, ec1, ec2⟩ | ⟨hsome, ec1, ec2⟩ <;> subst ec2))
local macro_rules | `(tactic| walk_at "call builtin:bytes.join") => `(tactic| (k_here; (with_reducible show wpAny _ _ (call (Value.builtin "bytes.join") [Value.bytes _ _, Value.ref _]) _ _ _); (rename News _ _ _ _ => lN'); (refine' join_K (News.get lN' ?k1) ?k2 ?_; (case k1 => k_mem); (case k2 => exact cat_line (by assumption) (by assumption) (by assumption) (by assumption) (by assumption))); intro t' tk'))
local macro_rules | `(tactic| walk_at "call builtin:list.append") => `(tactic| (k_here; (with_reducible show wpAny _ _ (call (Value.builtin "list.append") [Value.ref _, Value.bytes _ _]) _ _ _); k_dflt (refine' append_bytes ?k1 ?k2 ?k3 ?k4 ?_; (case k1 => k_asm); (case k2 => k_asm); (case k3 => k_updF); (case k4 => omega); k_whole); intro h' F' N'; (try dsimp only at N')))
local macro_rules | `(tactic| walk_at "call builtin:len") => `(tactic| (k_here; (with_reducible show wpAny _ _ (call (Value.builtin "len") [Value.bytes _ _]) _ _ _); (refine len_bytes (by (first | omega | (subst_vars; exact Nat.le_trans (rd_line2 _ _) (by decide)))) ?_)))
section
variable {prog : Program} {w : World} {A : Around} {E : Value → Shared → Prop} {s : Shared} {p : Program} {loose : List Str} {mean : ExcName → Option Value} {mg mb : Str → Option Value} {h₀ : Heap} {dp un : Nat} {gd : Option (List Code)} {fr : Option (List Env)} {L : Addr} {m : Str → Option Value} {news : List (Addr × Obj)}
theorem parse_spec {R : Result → Shared → Prop} {x dx y : Addr} {b : Array UInt8} {q v : Int} {t1 t2 tq tv : Tok} {more : List Value} (Z : Base prog w p loose mean mg mb h₀ s.heap) (S : Strm w s.heap x dx y b q t1 t2 tq) (hx0 : h₀.get? x = none) (hdx0 : h₀.get? dx = none) (hy0 : h₀.get? y = none) (hdp : dp + 60 < recursionLimit)
    (h1 : 0 ≤ v) (h2 : v ≤ 1099511627776) (hz : b.size ≤ sizeLine) (hm : (more = [] ∧ v = q) ∨ more = [.int v tv])
    (hR0 : (0 : UInt8) ∉ b.toList.drop v.toNat → ∀ h' tk q' t1' t2' tq', (∀ a o, a ≠ dx → s.heap.get? a = some o → h'.get? a = some o) → h'.get? dx = some (streamDict w y q' t1' t2' tq') → R (.ok (.ret .none)) { s with heap := h', toks := tk })
    (hR1 : (0 : UInt8) ∈ b.toList.drop v.toNat → ∀ h' tk q' t1' t2' tq' t', (∀ a o, a ≠ dx → s.heap.get? a = some o → h'.get? a = some o) → h'.get? dx = some (streamDict w y q' t1' t2' tq') → R (.ok (.ret (.bytes ((b.toList.drop v.toNat).takeWhile (· != 0)).toArray t'))) { s with heap := h', toks := tk }) :
    codeAny (model prog w) { handled := none, depth := dp, frames := fr, guards := gd, units := un } (.call (.ref 593) ⟨.ref x :: more, []⟩) R s := by
  have X0 : (hd.heap_39 w.params).In s.heap := Z.X.keeps Z.keep
  have n1 := S.ne1
  have n2 := S.ne2
  have n3 := S.ne3
  have hz2 : b.size ≤ 16777216 := by rw [sizeLine_eq] at hz; exact hz
  rcases hm with ⟨rfl, hv⟩ | rfl
  all_goals
    refine' call_but (bs := [(x, instObj 322 dx), (dx, streamDict w y q t1 t2 tq), (y, baOf b)]) Z ?hb ?k6 ?k7 ?k8 ?k9 ?kB ?_ ?c2 ?c3 ?c4 ?c5
    case hb => exact strm_bs S hx0 hdx0 hy0
    case k6 => k_is
    case k7 => k_is
    case k8 => show dp < recursionLimit; omega
    case k9 => first | exact BindsTo.of_eq rfl | exact binds_K X0 rfl (by k_is) rfl rfl rfl
    case kB => exact locs rfl
    case c5 => decide
    case c2 => exact rfl
    case c3 => exact rfl
    case c4 => exact rfl
    intro g L' h₁ Z' kg F N X T
    dsimp only [streamDict] at N
    generalize hW : Stmt.While _ _ _ _ = W
    k_steps
  all_goals
    rename_i D _ lD _ F9 N9
    subst hW
    refine ksw_while (σ := List (Array UInt8 × Tok) × Nat × Int × Tok × Tok × Tok)
      (fun c => [(D, PySem.W.listOf (c.1.map byV).toArray c.2.1), (x, instObj 322 dx), (dx, streamDict w y c.2.2.1 c.2.2.2.1 c.2.2.2.2.1 c.2.2.2.2.2), (y, baOf b)])
      (fun c => []) (fun c => True) [Str.ofString "chunk", Str.ofString "sep", Str.ofString "_tail"]
      (fun c => c.2.2.1 = v + 64 * c.1.length ∧ 64 * c.1.length ≤ (b.toList.drop v.toNat).length ∧ catB c.1 = ((b.toList.drop v.toNat).take (64 * c.1.length)).toArray ∧ (0 : UInt8) ∉ (b.toList.drop v.toNat).take (64 * c.1.length))
      (fun c => (b.toList.drop v.toNat).length - 64 * c.1.length) ([], 0, _, _, _, _) F9 N9 trivial ?_ ?_ ?_
    · exact fun _ hq => nomatch hq
    · exact ⟨by simp only [List.length_nil]; omega, by simp, by simp [catB], by simp⟩
    clear F9 N9
    rintro ⟨cs, n, q', t1, t2, tq⟩ u h tk' _ ⟨hq, hle, hcat, hno⟩ F9 N9
    dsimp only at F9 N9 hq hle hcat hno
    have hq0 : 0 ≤ q' := by omega
    have hcs : cs.length ≤ 16777216 := by rw [List.length_drop, Array.length_toList (xs := b)] at hle; omega
    k_steps
  all_goals (try unfold Still)
  all_goals (rename Fr _ _ _ _ => F9)
  all_goals (rename News _ _ _ _ => N9)
  all_goals first
    | (rename ¬ ((0 : UInt8) ∈ (rd b _ _).toList) => hnone
       rename _ = rd b _ _ => ec1
       rw [rd_eq hq h1] at hnone
       first
       | (rename (_ : Int) < 64 => hlt
          refine hR0 (cstr_miss _ _ hno hnone (by rw [← rd_eq hq h1, ← ec1, Array.length_toList (xs := _)]; omega)) _ _ _ _ _ _ (keep_but (d := dx) (fun z hz => (strm_bs S hx0 hdx0 hy0 z hz).1) kg F9 N9 ?_) (News.get N9 (by k_mem))
          intro z hz hne
          simp only [List.mem_cons, List.not_mem_nil, or_false] at hz
          rcases hz with rfl | rfl | rfl
          · k_mem
          · exact absurd rfl hne
          · k_mem)
       | (rename ¬ ((_ : Int) < 64) => hlt
          rw [ec1] at hlt
          have hsz : ((b.toList.drop v.toNat).drop (64 * cs.length)).length ≥ 64 := by
            have := rd_eq (b := b) hq h1
            have e2 := congrArg List.length this
            rw [Array.length_toList (xs := rd b _ _), List.length_take] at e2
            omega
          refine ksw_end (cs ++ [(_, _)], n + 1, _, _, _, _) F9 N9 (fun _ hp => .tail _ hp) trivial (fun _ hp => nomatch hp) (by intro z _ h3; simp only [List.contains_cons, List.contains_nil, Bool.or_false, Bool.or_eq_false_iff, beq_eq_false_iff_ne, ne_eq] at h3; simp [h3, kstB]) ?_ ?_
          · rw [List.length_drop, List.length_drop, Array.length_toList (xs := b)] at hsz
            refine ⟨?_, ?_, ?_, ?_⟩
            · dsimp only
              rw [List.length_append, List.length_singleton]
              omega
            · rw [List.length_append, List.length_singleton, List.length_drop, Array.length_toList (xs := b)]
              omega
            · rw [catB_snoc, hcat, ec1, List.length_append, List.length_singleton, Nat.mul_add, List.take_add]
              apply Array.ext'
              rw [Array.toList_append, rd_eq hq h1]
            · rw [List.length_append, List.length_singleton, Nat.mul_add]
              exact cstr_next _ _ hno hnone
          · rw [List.length_append, List.length_singleton]
            rw [List.length_drop, List.length_drop, Array.length_toList (xs := b)] at hsz
            rw [List.length_drop, Array.length_toList (xs := b)]
            dsimp only
            omega))
    | (rename (0 : UInt8) ∈ (rd b _ _).toList => hsome
       rename _ = List.toArray _ => ec1
       rw [rd_eq hq h1] at hsome ec1
       have hh := cstr_hit _ _ hno hsome
       rw [catB_snoc, hcat, ec1, show (List.take (64 * cs.length) (List.drop v.toNat b.toList)).toArray ++ (List.takeWhile (fun x => x != 0) (List.take 64 (List.drop (64 * cs.length) (List.drop v.toNat b.toList)))).toArray = ((b.toList.drop v.toNat).takeWhile (· != 0)).toArray from by rw [← hh.2]; simp]
       refine hR1 hh.1 _ _ _ _ _ _ _ (keep_but (d := dx) (fun z hz => (strm_bs S hx0 hdx0 hy0 z hz).1) kg F9 N9 ?_) (News.get N9 (by k_mem))
       intro z hz hne
       simp only [List.mem_cons, List.not_mem_nil, or_false] at hz
       rcases hz with rfl | rfl | rfl
       · k_mem
       · exact absurd rfl hne
       · k_mem)
end
end Mine
end
section
open PySem PySem.W PySem.Calls PyProof.Rows
set_option maxRecDepth 100000
set_option maxHeartbeats 4000000
namespace Mine
theorem offL0 : True := by
  w_top off
  trivial
theorem fragOnL0 : (fun (_ : OpenLaw) (_ : Params → Frag) => True) PySem.Challenge.rw_ez0261_01 hd.heap_39 := by
  k_fill
  trivial
local macro_rules | `(tactic| walk_at "eval ListComp") => `(tactic| (k_here; (with_reducible apply ListComp_DCn); (case hh => with_unfolding_all rfl); (case hclos => with_unfolding_all rfl); (case hcell => decide); (case hkind => with_unfolding_all rfl); (case hnames => decide); (case hx => with_unfolding_all rfl); (case hs => intro _; with_unfolding_all rfl); (case' h => with_reducible refine wpAny_compPack ?_)))
abbrev boxOf (c bb q : Int) (tc tb tq : Tok) (i : Addr) (n : Nat) : Obj := PySem.W.listOf [.int c tc, .int bb tb, .int q tq, .ref i].toArray n
def absL (ns : List Int) : List Int := ns.map fun a => if a < 0 then -a else a
section
variable {prog : Program} {w : World} {A : Around} {E : Value → Shared → Prop} {s : Shared} {p : Program} {loose : List Str} {mean : ExcName → Option Value} {mg mb : Str → Option Value} {h₀ : Heap} {dp un : Nat} {gd : Option (List Code)} {fr : Option (List Env)} {L : Addr} {m : Str → Option Value} {news : List (Addr × Obj)}
theorem box_spec {R : Result → Shared → Prop} {l : Addr} {vs : List Value} {ns : List Int} (Z : Base prog w p loose mean mg mb h₀ s.heap) (hl : h₀.IsList l vs.toArray) (hi : IntsAre vs ns) (hn : ns.length ≤ 63) (hdp : dp + 20 < recursionLimit)
    (hR : ∀ (b i : Addr) vs' n h' tk t1 t2 t3, (∀ a o, s.heap.get? a = some o → h'.get? a = some o) → s.heap.get? b = none → s.heap.get? i = none → @LT.lt Nat _ i b → IntsAre vs' (absL ns) → h'.get? i = some (PySem.W.listOf vs'.toArray n) → h'.get? b = some (boxOf 0 0 0 t1 t2 t3 i 0) → R (.ok (.ret (.ref b))) { s with heap := h', toks := tk }) :
    codeAny (model prog w) { handled := none, depth := dp, frames := fr, guards := gd, units := un } (.call (.ref 598) ⟨[.ref l], []⟩) R s := by
  have X0 : (hd.heap_39 w.params).In s.heap := Z.X.keeps Z.keep
  refine' call_but (bs := []) Z ?hb ?k6 ?k7 ?k8 ?k9 ?kB ?_ ?c2 ?c3 ?c4 ?c5
  case hb => exact fun _ hq => nomatch hq
  case k6 => k_is
  case k7 => k_is
  case k8 => show dp < recursionLimit; omega
  case k9 => first | exact BindsTo.of_eq rfl | exact binds_K X0 rfl (by k_is) rfl rfl rfl
  case kB => exact locs rfl
  case c5 => decide
  case c2 => exact rfl
  case c3 => exact rfl
  case c4 => exact rfl
  intro g L' h₁ Z' kg F N X T
  have hlg : g.IsList l vs.toArray := hl.at fun o e => kg _ _ (fun q => nomatch q) (Z.keep _ _ e)
  k_steps
  rename Fr _ _ _ _ => F9
  rename News _ _ _ _ => N9
  rename IntsAre _ (List.map _ ns) => I9
  have up : ∀ a, g.get? a = none → s.heap.get? a = none := by
    intro a e
    cases q : s.heap.get? a with
    | none => rfl
    | some o => rw [kg a o (fun q => nomatch q) q] at e; cases e
  have m1 := N9 _ (.head _)
  have m2 := N9 _ (.tail _ (.head _))
  refine hR _ _ _ _ _ _ _ _ _ (fun a o e => F9.keep a o (kg a o (fun q => nomatch q) e)) (up _ m1.2.2) (up _ m2.2.2) ?_ I9 m2.1 m1.1
  assumption
end
end Mine
end
section
open PySem PySem.W PySem.Calls PyProof.Rows
set_option maxRecDepth 100000
set_option maxHeartbeats 4000000
namespace Mine
theorem offL1 : True := by
  w_top off
  trivial
theorem fragOnL1 : (fun (_ : OpenLaw) (_ : Params → Frag) => True) PySem.Challenge.rw_ez0261_01 hd.heap_39 := by
  k_fill
  trivial
theorem absL_pos (ns : List Int) : ∀ x ∈ absL ns, 0 ≤ x := by
  intro x hx
  obtain ⟨a, _, rfl⟩ := List.mem_map.mp hx
  split <;> omega
theorem absL_len (ns : List Int) : (absL ns).length = ns.length := List.length_map _
section
variable {prog : Program} {w : World} {A : Around} {E : Value → Shared → Prop} {s : Shared} {p : Program} {loose : List Str} {mean : ExcName → Option Value} {mg mb : Str → Option Value} {h₀ : Heap} {dp un : Nat} {gd : Option (List Code)} {fr : Option (List Env)} {L : Addr} {m : Str → Option Value} {news : List (Addr × Obj)} {g : Obj → List (Addr × Obj)}
theorem isList_of {h : Heap} {i : Addr} {vs : List Value} {n : Nat} (e : h.get? i = some (PySem.W.listOf vs.toArray n)) : h.IsList i vs.toArray := ⟨_, e, rfl, ⟨n, rfl⟩⟩
theorem none_below {a : Addr} (F : Fr h₀ L s.heap m) (e : s.heap.get? a = none) : h₀.get? a = none ∧ a ≠ L := by
  constructor
  · cases q : h₀.get? a with
    | none => rfl
    | some o => rw [F.keep a o q] at e; cases e
  · rintro rfl
    obtain ⟨oL, es, ep, gL, r⟩ := F.ns
    rw [gL] at e
    cases e
theorem box_use {l : Addr} {vs : List Value} {ns : List Int} {Q : Value → Shared → Prop} (F : Fr h₀ L s.heap m) (X : (hd.heap_39 w.params).In h₀) (T : Top p loose mean mg mb h₀) (hA : A.handled = none) (hd : A.depth + 20 < recursionLimit)
    (hl : h₀.IsList l vs.toArray) (hi : IntsAre vs ns) (hn : ns.length ≤ 63)
    (h : ∀ (b i : Addr) vs' n h' tk t1 t2 t3, Fr h₀ L h' m → News h₀ L h' [(b, boxOf 0 0 0 t1 t2 t3 i 0), (i, PySem.W.listOf vs'.toArray n)] → @LT.lt Nat _ i b → IntsAre vs' (absL ns) → Q (.ref b) { s with heap := h', toks := tk }) :
    wpAny (model prog w) A (call (.ref 598) [.ref l]) Q E s := by
  obtain ⟨hd', dp, fr, gd, un⟩ := A
  subst hA
  refine wpAny_call (box_spec ⟨F.keep, X, T⟩ hl hi hn hd fun b i vs' n h' tk t1 t2 t3 k e1 e2 lt I g1 g2 => ?_)
  refine h b i vs' n h' tk t1 t2 t3 (fr_ext F k) ?_ lt I
  intro q hq
  simp only [List.mem_cons, List.not_mem_nil, or_false] at hq
  rcases hq with rfl | rfl
  · exact ⟨g2, (none_below F e1).2, (none_below F e1).1⟩
  · exact ⟨g1, (none_below F e2).2, (none_below F e2).1⟩
theorem take_use {b i : Addr} {c bb q mm : Int} {tc tb tq tm : Tok} {n nn : Nat} {vs : List Value} {ns : List Int} {Q : Value → Shared → Prop} (F : Fr h₀ L s.heap m) (X : (hd.heap_39 w.params).In h₀) (T : Top p loose mean mg mb h₀) (N : News h₀ L s.heap news) (hA : A.handled = none) (hd : A.depth + 10 < recursionLimit)
    (U : UpdF b (boxOf c bb q tc tb tq i n) news g) (mi : (i, PySem.W.listOf vs.toArray nn) ∈ news) (hi : IntsAre vs ns) (hn : ns.length ≤ 63) (hpos : ∀ x ∈ ns, 0 ≤ x) (ok : BoxOk c bb q) (hm : 0 < mm) (hm2 : mm < 1000) (hib : @LT.lt Nat _ i b)
    (h : ∀ k t c' bb' q' tc' tb' tq' n' h' tk, 0 ≤ k → k < mm → BoxOk c' bb' q' → Fr h₀ L h' m → News h₀ L h' (g (boxOf c' bb' q' tc' tb' tq' i n')) → Q (.int k t) { s with heap := h', toks := tk }) :
    wpAny (model prog w) A (call (.ref 605) [.ref b, .int mm tm]) Q E s := by
  obtain ⟨hd', dp, fr, gd, un⟩ := A
  subst hA
  have mb := upd_mem U
  exact wpAny_call (take_spec ⟨F.keep, X, T⟩ (N _ mb).1 (N _ mb).2.2 (isList_of (N _ mi).1) hi hn hpos ok hm hm2 (Nat.ne_of_lt hib) hd
    fun k t c' bb' q' tc' tb' tq' n' h' tk k0 k1 ok' kp e => h k t c' bb' q' tc' tb' tq' n' h' tk k0 k1 ok' (fr_but F kp (N _ mb).2.2 (N _ mb).2.1) (news_but N U kp e))
theorem takeB_use {b i : Addr} {c bb q mm : Int} {tc tb tq tm : Tok} {n : Nat} {vs : List Value} {ns : List Int} {Q : Value → Shared → Prop} (F : Fr h₀ L s.heap m) (X : (hd.heap_39 w.params).In h₀) (T : Top p loose mean mg mb h₀) (N : News h₀ L s.heap news) (hA : A.handled = none) (hd : A.depth + 10 < recursionLimit)
    (U : UpdF b (boxOf c bb q tc tb tq i n) news g) (mi : h₀.IsList i vs.toArray) (hi : IntsAre vs ns) (hn : ns.length ≤ 63) (hpos : ∀ x ∈ ns, 0 ≤ x) (ok : BoxOk c bb q) (hm : 0 < mm) (hm2 : mm < 1000) (hib : @LT.lt Nat _ i b)
    (h : ∀ k t c' bb' q' tc' tb' tq' n' h' tk, 0 ≤ k → k < mm → BoxOk c' bb' q' → Fr h₀ L h' m → News h₀ L h' (g (boxOf c' bb' q' tc' tb' tq' i n')) → Q (.int k t) { s with heap := h', toks := tk }) :
    wpAny (model prog w) A (call (.ref 605) [.ref b, .int mm tm]) Q E s := by
  obtain ⟨hd', dp, fr, gd, un⟩ := A
  subst hA
  have mb := upd_mem U
  exact wpAny_call (take_spec ⟨F.keep, X, T⟩ (N _ mb).1 (N _ mb).2.2 (mi.at fun o e => F.keep _ _ e) hi hn hpos ok hm hm2 (Nat.ne_of_lt hib) hd
    fun k t c' bb' q' tc' tb' tq' n' h' tk k0 k1 ok' kp e => h k t c' bb' q' tc' tb' tq' n' h' tk k0 k1 ok' (fr_but F kp (N _ mb).2.2 (N _ mb).2.1) (news_but N U kp e))
end
local macro_rules | `(tactic| walk_at "call ref") => `(tactic| (k_here; (with_reducible show wpAny _ _ (call (Value.ref 605) [Value.ref _, Value.int _ _]) _ _ _); k_dflt (refine' takeB_use ?k1 ?k2 ?k3 ?k4 ?k5 ?k6 ?k7 ?k8 ?k9 ?ka ?kb ?kc ?kd ?ke ?kf ?_; (case k1 => k_asm); (case k2 => k_asm); (case k3 => k_asm); (case k4 => k_asm); (case k5 => exact rfl); (case k6 => (simp only [depth_deeper, depth_in1]; omega)); (case k7 => k_updF); (case k8 => assumption); (case k9 => assumption); (case ka => assumption); (case kb => assumption); (case kc => assumption); (case kd => omega); (case ke => omega); (case kf => assumption); k_whole); intro k' t' c' bb' q' tc' tb' tq' n' h' tk' k0' k1' ok' F' N'; (try dsimp only at N')))
section
variable {prog : Program} {w : World} {A : Around} {E : Value → Shared → Prop} {s : Shared} {p : Program} {loose : List Str} {mean : ExcName → Option Value} {mg mb : Str → Option Value} {h₀ : Heap} {dp un : Nat} {gd : Option (List Code)} {fr : Option (List Env)} {L : Addr} {m : Str → Option Value} {news : List (Addr × Obj)} {g : Obj → List (Addr × Obj)}
theorem pick_spec {R : Result → Shared → Prop} {b i M : Addr} {c bb q : Int} {tc tb tq : Tok} {n : Nat} {vs us : List Value} {ns ms : List Int}
    (Z : Base prog w p loose mean mg mb h₀ s.heap) (hb : s.heap.get? b = some (boxOf c bb q tc tb tq i n)) (hb0 : h₀.get? b = none)
    (hl : s.heap.IsList i vs.toArray) (hi : IntsAre vs ns) (hn : ns.length ≤ 63) (hpos : ∀ x ∈ ns, 0 ≤ x) (ok : BoxOk c bb q) (hib : @LT.lt Nat _ i b)
    (hM : s.heap.IsList M us.toArray) (hu : IntsAre us ms) (hms : 0 < ms.length) (hms2 : ms.length < 1000) (hMb : M ≠ b)
    (hdp : dp + 20 < recursionLimit)
    (hR : ∀ k t c' bb' q' tc' tb' tq' n' h' tk, k ∈ ms → BoxOk c' bb' q' → (∀ x o, x ≠ b → s.heap.get? x = some o → h'.get? x = some o) → h'.get? b = some (boxOf c' bb' q' tc' tb' tq' i n') →
      R (.ok (.ret (.int k t))) { s with heap := h', toks := tk }) :
    codeAny (model prog w) { handled := none, depth := dp, frames := fr, guards := gd, units := un } (.call (.ref 612) ⟨[.ref b, .ref M], []⟩) R s := by
  have X0 : (hd.heap_39 w.params).In s.heap := Z.X.keeps Z.keep
  refine' call_but (bs := [(b, boxOf c bb q tc tb tq i n)]) Z ?hb ?k6 ?k7 ?k8 ?k9 ?kB ?_ ?c2 ?c3 ?c4 ?c5
  case hb =>
    intro z hz
    rcases List.mem_singleton.mp hz with rfl
    exact ⟨hb, hb0⟩
  case k6 => k_is
  case k7 => k_is
  case k8 => show dp < recursionLimit; omega
  case k9 => first | exact BindsTo.of_eq rfl | exact binds_K X0 rfl (by k_is) rfl rfl rfl
  case kB => exact locs rfl
  case c5 => decide
  case c2 => exact rfl
  case c3 => exact rfl
  case c4 => exact rfl
  intro g L' h₁ Z' kg F N X T
  have hlg : g.IsList i vs.toArray := hl.at fun o e => kg _ _ (by simpa using Nat.ne_of_lt hib) e
  have hMg : g.IsList M us.toArray := hM.at fun o e => kg _ _ (by simpa using hMb) e
  k_steps
  rename Fr _ _ _ _ => F9
  rename News _ _ _ _ => N9
  rename BoxOk _ _ _ => ok9
  rename (_ : Int) < ↑ms.length => lt9
  have hmem : ∀ k : Int, 0 ≤ k → k < ms.length → ms.getD k.toNat 0 ∈ ms := by
    intro k k0 k1
    rw [List.getD_eq_getElem?_getD, List.getElem?_eq_getElem (by omega)]
    exact List.getElem_mem _
  refine hR _ _ _ _ _ _ _ _ _ _ _ (hmem _ (by assumption) lt9) ok9 (fun x o hx e => F9.keep x o (kg x o (by simpa using hx) e)) (N9 _ (.head _)).1
theorem pick_use {b i M : Addr} {c bb q : Int} {tc tb tq : Tok} {n nn nm : Nat} {vs us : List Value} {ns ms : List Int} {Q : Value → Shared → Prop} (F : Fr h₀ L s.heap m) (X : (hd.heap_39 w.params).In h₀) (T : Top p loose mean mg mb h₀) (N : News h₀ L s.heap news) (hA : A.handled = none) (hd : A.depth + 20 < recursionLimit)
    (U : UpdF b (boxOf c bb q tc tb tq i n) news g) (mi : (i, PySem.W.listOf vs.toArray nn) ∈ news) (hi : IntsAre vs ns) (hn : ns.length ≤ 63) (hpos : ∀ x ∈ ns, 0 ≤ x) (ok : BoxOk c bb q) (hib : @LT.lt Nat _ i b)
    (mM : (M, PySem.W.listOf us.toArray nm) ∈ news) (hu : IntsAre us ms) (hms : 0 < ms.length) (hms2 : ms.length < 1000) (hMb : M ≠ b)
    (h : ∀ k t c' bb' q' tc' tb' tq' n' h' tk, k ∈ ms → BoxOk c' bb' q' → Fr h₀ L h' m → News h₀ L h' (g (boxOf c' bb' q' tc' tb' tq' i n')) → Q (.int k t) { s with heap := h', toks := tk }) :
    wpAny (model prog w) A (call (.ref 612) [.ref b, .ref M]) Q E s := by
  obtain ⟨hd', dp, fr, gd, un⟩ := A
  subst hA
  have mb := upd_mem U
  exact wpAny_call (pick_spec ⟨F.keep, X, T⟩ (N _ mb).1 (N _ mb).2.2 (isList_of (N _ mi).1) hi hn hpos ok hib (isList_of (N _ mM).1) hu hms hms2 hMb hd
    fun k t c' bb' q' tc' tb' tq' n' h' tk k0 ok' kp e => h k t c' bb' q' tc' tb' tq' n' h' tk k0 ok' (fr_but F kp (N _ mb).2.2 (N _ mb).2.1) (news_but N U kp e))
end
end Mine
end
section
open PySem PySem.W PySem.Calls PyProof.Rows Builtin
set_option maxRecDepth 100000
set_option maxHeartbeats 4000000
namespace Mine
theorem offE0 : True := by
  w_top off
  trivial
def latin (b : Array UInt8) : PySem.Str := ⟨(b.toList.map (·.toNat)).toArray⟩
section
variable {prog : Program} {w : World} {A : Around} {E : Value → Shared → Prop} {s : Shared}
theorem latin_run {id : String} {b : Array UInt8} {held : List Value} {Q : Array Nat × Nat → Shared → Prop} (hz : b.size ≤ 16777216) (h : Q ((latin b).cps, b.size) s) :
    wpAny (model prog w) A (_codecs.runDecoder id _codecs.latin1Decoder none true b 0 held) Q E s := by
  unfold _codecs.runDecoder
  refine wpAny_bind ?_
  rw [Std.Legacy.Range.forIn_eq_forIn_range']
  refine wpAny_forIn_list _ (fun rest acc s' => s' = s ∧ acc.1 + rest.length = b.size ∧ acc.2.1 = ((b.toList.take acc.1).map (·.toNat)).toArray) _ ?_ ?_ _ _ ?_
  · intro j rest acc s' hacc
    obtain ⟨p, out, st⟩ := acc
    obtain ⟨h1, hp, ho⟩ := hacc
    subst h1
    dsimp only at hp ho
    rw [List.length_cons] at hp
    have hsz : out.size = p := by
      rw [ho, List.size_toArray, List.length_map, List.length_take, Array.length_toList]
      omega
    dsimp only
    rw [if_neg (show ¬ out.size > sizeLine from by rw [sizeLine_eq]; omega), if_neg (show ¬ p ≥ b.size from by omega)]
    refine wpAny_pure ?_
    refine ⟨rfl, ?_, ?_⟩
    · dsimp only
      omega
    · dsimp only
      have hlt : p < b.toList.length := by rw [Array.length_toList]; omega
      rw [ho, List.take_add_one, List.getElem?_eq_getElem hlt]
      have e : b.getD p 0 = b.toList[p] := by
        rw [Array.getD_eq_getD_getElem?, ← Array.getElem?_toList, List.getElem?_eq_getElem hlt]; rfl
      simp [e]
  · intro acc s' hacc
    obtain ⟨p, out, st⟩ := acc
    obtain ⟨h1, hp, ho⟩ := hacc
    subst h1
    dsimp only at hp ho ⊢
    have hp' : p = b.size := hp
    subst hp'
    refine wpAny_pure ?_
    rw [ho, List.take_of_length_le (by rw [Array.length_toList]; exact Nat.le_refl _)]
    exact h
  · refine ⟨rfl, by simp, by simp⟩
theorem latin_road {id : String} {b : Array UInt8} {held : List Value} : _codecs.decodeRoad id b (PySem.Str.ofString "latin-1") none held = (_codecs.runDecoder id _codecs.latin1Decoder none true b 0 held >>= fun r => mkStr ⟨r.1⟩) := by kernel_rfl
theorem entry_latin {c : UInt8} {cs : List UInt8} {t te : Tok} : «bytes.decode» ⟨[.bytes (c :: cs).toArray t, .str (PySem.Str.ofString "latin-1") te], []⟩ = (mkStr (PySem.Str.ofString "utf-8") >>= fun _ => mkStr (PySem.Str.ofString "latin-1") >>= fun e => mkStr (PySem.Str.ofString "bytes.decode") >>= fun d =>
    call (.builtin "_codecs.decode.text") [.bytes (c :: cs).toArray t, e, .none, d] >>= fun v => ret v) := by kernel_rfl
theorem latin_text {b : Array UInt8} {t t1 t2 : Tok} {d : PySem.Str} :
    Meets («_codecs.decode.text» ⟨[.bytes b t, .str (PySem.Str.ofString "latin-1") t1, .none, .str d t2], []⟩) (fun _ R s => b.size ≤ 16777216 ∧ R (.ok (.ret (.str (latin b) s.toks))) { s with toks := s.toks + 1 }) := by
  refine .of_wp fun prog w A R s hS => ?_
  obtain ⟨hsz, h⟩ := hS
  show wpAny _ _ (Bytes.bytesLike _ (.bytes b t) >>= fun r => _) _ _ s
  refine wpAny_bind (wpAny_of_eq KBd.like_eq ?_)
  refine wpAny_bind (wpAny_of_eq KBd.held_eq ?_)
  show wpAny _ _ (_codecs.decodeRoad _ b (PySem.Str.ofString "latin-1") none [] >>= fun v => _) _ _ s
  rw [latin_road]
  refine wpAny_bind (wpAny_bind (latin_run hsz ?_))
  refine wpAny_mkStr (wpAny_pure ⟨_, rfl, h⟩) ?_
  show (latin b).cps.size ≤ _
  unfold latin
  rw [List.size_toArray, List.length_map, Array.length_toList, sizeLine_eq]
  exact hsz
theorem entry_latin0 {t te : Tok} : «bytes.decode» ⟨[.bytes #[] t, .str (PySem.Str.ofString "latin-1") te], []⟩ = (rule "bytes.decode.empty" >>= fun _ => retStr Str.empty) := by kernel_rfl
theorem meets_latin {b : Array UInt8} {t te : Tok} :
    Meets («bytes.decode» ⟨[.bytes b t, .str (PySem.Str.ofString "latin-1") te], []⟩) (fun _ R s => b.size ≤ 16777216 ∧ ∀ t' k, R (.ok (.ret (.str (latin b) t'))) { s with toks := k }) := by
  refine .of_wp fun prog w A R s hS => ?_
  obtain ⟨hsz, h⟩ := hS
  obtain ⟨l, rfl⟩ : ∃ l : List UInt8, b = l.toArray := ⟨b.toList, (Array.toArray_toList).symm⟩
  cases l with
  | nil =>
    show wpAny _ _ («bytes.decode» ⟨[.bytes #[] t, .str (PySem.Str.ofString "latin-1") te], []⟩) _ _ s
    rw [entry_latin0]
    refine wpAny_bind (wpAny_rule ?_)
    refine wpAny_bind (wpAny_mkStr ?_ (by decide))
    exact wpAny_pure ⟨_, rfl, h _ _⟩
  | cons c cs =>
    rw [entry_latin]
    refine wpAny_bind (wpAny_mkStr ?_ (by decide))
    refine wpAny_bind (wpAny_mkStr ?_ (by decide))
    refine wpAny_bind (wpAny_mkStr ?_ (by decide))
    exact wpAny_bind (call_function_meets KBd.kind_text KBd.plain_text KBd.entry_text (KBd.args_text _ _ _ _) latin_text ⟨hsz, wpAny_pure ⟨_, rfl, h _ _⟩⟩)
theorem args_latin (a c : Value) : argsOk "bytes.decode" ⟨[a, c], []⟩ := by unfold argsOk; kernel_rfl
theorem decode_latin {b : Array UInt8} {t te : Tok} {Q : Value → Shared → Prop} (hsz : b.size ≤ 16777216) (h : ∀ t' k, Q (.str (latin b) t') { s with toks := k }) :
    wpAny (model prog w) A (call (.builtin "bytes.decode") [.bytes b t, .str (PySem.Str.ofString "latin-1") te]) Q E s :=
  call_meets FB.slot_bytes_decode (typeIs_bytes _ _ _) FB.entry_bytes_decode (args_latin _ _) meets_latin ⟨hsz, h⟩
end
end Mine
end
section
open PySem PySem.W PySem.Calls PyProof.Rows
set_option maxRecDepth 100000
set_option maxHeartbeats 4000000
namespace Mine
theorem offL2 : True := by
  w_top off
  trivial
theorem fragOnL2 : (fun (_ : OpenLaw) (_ : Params → Frag) => True) PySem.Challenge.rw_ez0261_01 hd.heap_39 := by
  k_fill
  trivial
local macro_rules | `(tactic| walk_at "call ref") => `(tactic| (k_here; (with_reducible show wpAny _ _ (call (Value.ref 598) [Value.ref _]) _ _ _); k_dflt (refine' box_use ?k1 ?k2 ?k3 ?k5 ?k6 ?k7 ?k8 ?k9 ?_; (case k1 => k_asm); (case k2 => k_asm); (case k3 => k_asm); (case k5 => exact rfl); (case k6 => (simp only [depth_deeper, depth_in1]; omega)); (case k7 => assumption); (case k8 => assumption); (case k9 => assumption); k_whole); intro bx' ib' vs' n' h' tk' t1' t2' t3' F' N' lt' I'))
local macro_rules | `(tactic| walk_at "call ref") => `(tactic| (k_here; (with_reducible show wpAny _ _ (call (Value.ref 605) [Value.ref _, Value.int _ _]) _ _ _); k_dflt (refine' take_use ?k1 ?k2 ?k3 ?k4 ?k5 ?k6 ?k7 ?k8 ?k9 ?ka ?kb ?kc ?kd ?ke ?kf ?_; (case k1 => k_asm); (case k2 => k_asm); (case k3 => k_asm); (case k4 => k_asm); (case k5 => exact rfl); (case k6 => (simp only [depth_deeper, depth_in1]; omega)); (case k7 => k_updF); (case k8 => k_mem); (case k9 => assumption); (case ka => assumption); (case kb => assumption); (case kc => assumption); (case kd => omega); (case ke => omega); (case kf => assumption); k_whole); intro k' t' c' bb' q' tc' tb' tq' n' h' tk' k0' k1' ok' F' N'; (try dsimp only at N')))
section
variable {prog : Program} {w : World} {A : Around} {E : Value → Shared → Prop} {s : Shared} {p : Program} {loose : List Str} {mean : ExcName → Option Value} {mg mb : Str → Option Value} {h₀ : Heap} {dp un : Nat} {gd : Option (List Code)} {fr : Option (List Env)} {L : Addr} {m : Str → Option Value} {news : List (Addr × Obj)} {g : Obj → List (Addr × Obj)}
theorem b2s_spec {R : Result → Shared → Prop} {b : Array UInt8} {t : Tok} (Z : Base prog w p loose mean mg mb h₀ s.heap) (hz : b.size ≤ 200) (hdp : dp + 20 < recursionLimit)
    (hR : ∀ h' tk t', (∀ a o, s.heap.get? a = some o → h'.get? a = some o) → R (.ok (.ret (.str (latin b) t'))) { s with heap := h', toks := tk }) :
    codeAny (model prog w) { handled := none, depth := dp, frames := fr, guards := gd, units := un } (.call (.ref 585) ⟨[.bytes b t], []⟩) R s := by
  have X0 : (hd.heap_39 w.params).In s.heap := Z.X.keeps Z.keep
  refine' call_but (bs := []) Z ?hb ?k6 ?k7 ?k8 ?k9 ?kB ?_ ?c2 ?c3 ?c4 ?c5
  case hb => exact fun _ hq => nomatch hq
  case k6 => k_is
  case k7 => k_is
  case k8 => show dp < recursionLimit; omega
  case k9 => first | exact BindsTo.of_eq rfl | exact binds_K X0 rfl (by k_is) rfl rfl rfl
  case kB => exact locs rfl
  case c5 => decide
  case c2 => exact rfl
  case c3 => exact rfl
  case c4 => exact rfl
  intro g L' h₁ Z' kg F N X T
  k_steps
  refine decode_latin (by omega) fun t' k => ?_
  k_steps
  rename Fr _ _ _ _ => F9
  exact hR _ _ _ (fun a o e => F9.keep a o (kg a o (fun q => nomatch q) e))
theorem b2s_use {b : Array UInt8} {t : Tok} {Q : Value → Shared → Prop} (F : Fr h₀ L s.heap m) (X : (hd.heap_39 w.params).In h₀) (T : Top p loose mean mg mb h₀) (N : News h₀ L s.heap news) (hA : A.handled = none) (hd : A.depth + 20 < recursionLimit) (hz : b.size ≤ 200)
    (h : ∀ h' tk t', Fr h₀ L h' m → News h₀ L h' news → Q (.str (latin b) t') { s with heap := h', toks := tk }) : wpAny (model prog w) A (call (.ref 585) [.bytes b t]) Q E s := by
  obtain ⟨hd', dp, fr, gd, un⟩ := A
  subst hA
  exact wpAny_call (b2s_spec ⟨F.keep, X, T⟩ hz hd fun h' tk t' k => h h' tk t' (fr_ext F k) (news_ext N k))
end
end Mine
end
section
open PySem PySem.W PySem.Calls PyProof.Rows Builtin
set_option maxRecDepth 100000
set_option maxHeartbeats 4000000
namespace Mine
theorem offM0 : True := by
  w_top off
  trivial
abbrev inV (p : Int × Tok) : Value := .int p.1 p.2
section
variable {prog : Program} {w : World} {A : Around} {E : Value → Shared → Prop} {s : Shared} {h₀ : Heap} {L : Addr} {m : Str → Option Value} {news : List (Addr × Obj)} {g : Obj → List (Addr × Obj)}
theorem append_ints {D : Addr} {cs : List (Int × Tok)} {n : Nat} {c : Int} {t : Tok} {Q : Value → Shared → Prop} (F : Fr h₀ L s.heap m) (N : News h₀ L s.heap news) (U : UpdF D (PySem.W.listOf (cs.map inV).toArray n) news g) (hz : cs.length ≤ 16777216)
    (h : ∀ h', Fr h₀ L h' m → News h₀ L h' (g (PySem.W.listOf ((cs ++ [(c, t)]).map inV).toArray (n + 1))) → Q .none { s with heap := h' }) :
    wpAny (model prog w) A (call (.builtin "list.append") [.ref D, .int c t]) Q E s := by
  have md := N _ (upd_mem U)
  refine append_at md.1 (fun h' hs hd => ?_) (by rw [List.size_toArray, List.length_map, sizeLine_eq]; exact hz)
  have e : (cs.map inV).toArray.push (.int c t) = ((cs ++ [(c, t)]).map inV).toArray := by simp
  rw [e] at hd
  refine h h' (F.change hs md.2.1 md.2.2) (news_but N U (fun a o ha e => ?_) hd)
  exact (hs.2 a ha).trans e
theorem item_bytes {value slice : Expr} {D : Addr} {cs : List (Array UInt8 × Tok)} {n : Nat} {k : Int} {u : Tok} {Q : Value → Shared → Prop} (N : News h₀ L s.heap news) (hm : (D, PySem.W.listOf (cs.map byV).toArray n) ∈ news) (h0 : 0 ≤ k) (h1 : k < cs.length) (hf : cs.length ≤ 1000)
    (h : ∀ r, cs[k.toNat]? = some r → Q (.bytes r.1 r.2) s)
    (hs : subscripted slice false (.ref D) (.int k u) = operate [.ref D, .int k u] (getItem (.ref D) (.int k u)) := by with_unfolding_all rfl) (hg : ∀ r, letTemporaryGo value (.ref D) r = pure () := by intro _; with_unfolding_all rfl) :
    wpAny (model prog w) A (subscriptTail value slice (.ref D) (.int k u)) Q E s := by
  have hk : k.toNat < cs.length := by omega
  refine kim_list N hm rfl rfl h0 (by omega) (x := byV cs[k.toNat]) ?_ (h _ (List.getElem?_eq_getElem hk)) hs hg
  rw [List.getElem?_map, List.getElem?_eq_getElem hk]
  rfl
theorem item_ints {value slice : Expr} {D : Addr} {cs : List (Int × Tok)} {n : Nat} {k : Int} {u : Tok} {Q : Value → Shared → Prop} (N : News h₀ L s.heap news) (hm : (D, PySem.W.listOf (cs.map inV).toArray n) ∈ news) (h0 : 0 ≤ k) (h1 : k < cs.length) (hf : cs.length ≤ 1000)
    (h : ∀ r, cs[k.toNat]? = some r → Q (.int r.1 r.2) s)
    (hs : subscripted slice false (.ref D) (.int k u) = operate [.ref D, .int k u] (getItem (.ref D) (.int k u)) := by with_unfolding_all rfl) (hg : ∀ r, letTemporaryGo value (.ref D) r = pure () := by intro _; with_unfolding_all rfl) :
    wpAny (model prog w) A (subscriptTail value slice (.ref D) (.int k u)) Q E s := by
  have hk : k.toNat < cs.length := by omega
  refine kim_list N hm rfl rfl h0 (by omega) (x := inV cs[k.toNat]) ?_ (h _ (List.getElem?_eq_getElem hk)) hs hg
  rw [List.getElem?_map, List.getElem?_eq_getElem hk]
  rfl
theorem len_byL {D : Addr} {cs : List (Array UInt8 × Tok)} {n : Nat} {Q : Value → Shared → Prop} (N : News h₀ L s.heap news) (hm : (D, PySem.W.listOf (cs.map byV).toArray n) ∈ news) (hf : cs.length ≤ 1000)
    (h : ∀ t k, Q (.int cs.length t) { s with toks := k }) : wpAny (model prog w) A (call (.builtin "len") [.ref D]) Q E s :=
  KM.len_K (n := cs.length) N hm (by rw [List.size_toArray, List.length_map]) (by omega) (h _ _)
theorem mul_o {x : UInt8} {n : Int} {t u : Tok} {Q : Value → Shared → Prop} (h0 : 0 ≤ n) (h1 : n ≤ 1000)
    (h : ∀ (r : Array UInt8) t' k, r.toList = List.replicate n.toNat x → r.size = n.toNat → Q (.bytes r t') { s with toks := k }) :
    wpAny (model prog w) A (binaryOp .Mult (.bytes #[x] t) (.int n u)) Q E s := by
  refine bytes_mul_any (b := [x]) (by simp) (by omega) (by omega) (by simp) fun t' k => h _ t' k ?_ ?_
  · have : ∀ k : Nat, (List.replicate k [x]).flatten = List.replicate k x := by
      intro k
      induction k with
      | zero => rfl
      | succ k ih => rw [List.replicate_succ, List.flatten_cons, ih]; rfl
    exact this _
  · rw [List.size_toArray]
    simp
theorem add_o {b c : Array UInt8} {t u : Tok} {Q : Value → Shared → Prop} (hsz : b.size + c.size ≤ 16777216) (h : ∀ (r : Array UInt8) t' k, r.toList = b.toList ++ c.toList → r.size = b.size + c.size → Q (.bytes r t') { s with toks := k }) :
    wpAny (model prog w) A (binaryOp .Add (.bytes b t) (.bytes c u)) Q E s :=
  KBy.add_bytes hsz fun t' k => h _ t' k Array.toList_append Array.size_append
end
/-- where the rows lie in the text -/
def RowsOk (text : Array UInt8) (cs : List (Array UInt8 × Tok)) (ps : List (Int × Tok)) : Prop :=
  ps.length = cs.length ∧ ∀ (j : Nat) r pl, cs[j]? = some r → ps[j]? = some pl → 0 ≤ pl.1 ∧ r.1.size ≤ 200 ∧ (0 : UInt8) ∉ r.1.toList ∧ ∃ post, text.toList.drop pl.1.toNat = r.1.toList ++ 0 :: post
theorem RowsOk.nil (text : Array UInt8) : RowsOk text [] [] := ⟨rfl, fun j r pl e => by simp at e⟩
theorem RowsOk.snoc {text text' : Array UInt8} {cs ps} {row : Array UInt8} {t t2 : Tok} (h : RowsOk text cs ps) (hr : row.size ≤ 200) (h0 : (0 : UInt8) ∉ row.toList) (e : text'.toList = text.toList ++ row.toList ++ [0]) :
    RowsOk text' (cs ++ [(row, t)]) (ps ++ [((text.size : Int), t2)]) := by
  refine ⟨by rw [List.length_append, List.length_append, h.1]; rfl, fun j r pl e1 e2 => ?_⟩
  by_cases hj : j < cs.length
  · rw [List.getElem?_append_left hj] at e1
    rw [List.getElem?_append_left (by rw [h.1]; exact hj)] at e2
    obtain ⟨a, b, c, post, d⟩ := h.2 j r pl e1 e2
    refine ⟨a, b, c, post ++ row.toList ++ [0], ?_⟩
    have hlen : pl.1.toNat ≤ text.toList.length := by
      apply Nat.le_of_not_lt
      intro hlt
      rw [List.drop_eq_nil_of_le (by omega)] at d
      have := congrArg List.length d
      rw [List.length_append, List.length_cons] at this
      simp at this
    rw [e, List.append_assoc, List.drop_append_of_le_length hlen, d]
    simp
  · have hj2 : j = cs.length := by
      have := (List.getElem?_eq_some_iff.mp e1).1
      rw [List.length_append, List.length_singleton] at this
      omega
    subst hj2
    rw [List.getElem?_append_right (Nat.le_refl _), Nat.sub_self] at e1
    rw [List.getElem?_append_right (by rw [h.1]; exact Nat.le_refl _), h.1, Nat.sub_self] at e2
    cases e1
    cases e2
    refine ⟨by omega, hr, h0, [], ?_⟩
    rw [e, List.append_assoc]
    have : ((text.size : Int)).toNat = text.toList.length := by rw [Array.length_toList]; rfl
    rw [this, List.drop_left]
end Mine
end
section
open PySem PySem.W PySem.Calls PyProof.Rows Builtin
set_option maxRecDepth 100000
set_option maxHeartbeats 4000000
namespace Mine
theorem offM1 : True := by
  w_top off
  trivial
theorem tw_app (a post : List UInt8) (ha : (0 : UInt8) ∉ a) : (a ++ 0 :: post).takeWhile (· != 0) = a := by
  induction a with
  | nil => rfl
  | cons c r ih =>
    have hc : c ≠ 0 := fun e => ha (by rw [e]; exact .head _)
    rw [List.cons_append, List.takeWhile_cons, ih (fun e => ha (.tail _ e))]
    simp [hc]
section
variable {prog : Program} {w : World} {A : Around} {E : Value → Shared → Prop} {s : Shared} {p : Program} {loose : List Str} {mean : ExcName → Option Value} {mg mb : Str → Option Value} {h₀ : Heap} {L : Addr} {m : Str → Option Value} {news : List (Addr × Obj)} {g : Obj → List (Addr × Obj)}
theorem parse_hit {x dx y : Addr} {b : Array UInt8} {q v : Int} {t1 t2 tq tv : Tok} {more : List Value} {a : List UInt8} {Q : Value → Shared → Prop} (F : Fr h₀ L s.heap m) (X : (hd.heap_39 w.params).In h₀) (T : Top p loose mean mg mb h₀) (N : News h₀ L s.heap news) (hA : A.handled = none) (hd : A.depth + 60 < recursionLimit)
    (m1 : (x, instObj 322 dx) ∈ news) (U : UpdF dx (streamDict w y q t1 t2 tq) news g) (m3 : (y, baOf b) ∈ news) (h1 : 0 ≤ v) (h2 : v ≤ 1099511627776) (hz : b.size ≤ sizeLine) (hm : (more = [] ∧ v = q) ∨ more = [.int v tv])
    (he : (∃ post, b.toList.drop v.toNat = a ++ 0 :: post) ∧ (0 : UInt8) ∉ a)
    (h : ∀ h' tk q' t1' t2' tq' t', Fr h₀ L h' m → News h₀ L h' (g (streamDict w y q' t1' t2' tq')) → Q (.bytes a.toArray t') { s with heap := h', toks := tk }) :
    wpAny (model prog w) A (call (.ref 593) (.ref x :: more)) Q E s := by
  obtain ⟨hd', dp, fr, gd, un⟩ := A
  subst hA
  have m2 := upd_mem U
  obtain ⟨⟨post, he⟩, ha⟩ := he
  have hin : (0 : UInt8) ∈ b.toList.drop v.toNat := by rw [he]; simp
  have htw : (b.toList.drop v.toNat).takeWhile (· != 0) = a := by
    rw [he]
    exact tw_app a post ha
  refine wpAny_call (parse_spec (q := q) (v := v) (tv := tv) (b := b) (t1 := t1) (t2 := t2) (tq := tq) ⟨F.keep, X, T⟩ (x := x) (dx := dx) (y := y) ⟨(N _ m1).1, (N _ m2).1, (N _ m3).1⟩ (N _ m1).2.2 (N _ m2).2.2 (N _ m3).2.2 hd h1 h2 hz hm (fun hno => absurd hin hno) fun _ h' tk q' t1' t2' tq' t' k e => ?_)
  rw [htw]
  exact h h' tk q' t1' t2' tq' t' (fr_but F k (N _ m2).2.2 (N _ m2).2.1) (news_but N U k e)
theorem parse_miss {x dx y : Addr} {b : Array UInt8} {q v : Int} {t1 t2 tq tv : Tok} {more : List Value} {Q : Value → Shared → Prop} (F : Fr h₀ L s.heap m) (X : (hd.heap_39 w.params).In h₀) (T : Top p loose mean mg mb h₀) (N : News h₀ L s.heap news) (hA : A.handled = none) (hd : A.depth + 60 < recursionLimit)
    (m1 : (x, instObj 322 dx) ∈ news) (U : UpdF dx (streamDict w y q t1 t2 tq) news g) (m3 : (y, baOf b) ∈ news) (h1 : 0 ≤ v) (h2 : v ≤ 1099511627776) (hz : b.size ≤ sizeLine) (hm : (more = [] ∧ v = q) ∨ more = [.int v tv])
    (he : (0 : UInt8) ∉ b.toList.drop v.toNat)
    (h : ∀ h' tk q' t1' t2' tq', Fr h₀ L h' m → News h₀ L h' (g (streamDict w y q' t1' t2' tq')) → Q .none { s with heap := h', toks := tk }) :
    wpAny (model prog w) A (call (.ref 593) (.ref x :: more)) Q E s := by
  obtain ⟨hd', dp, fr, gd, un⟩ := A
  subst hA
  have m2 := upd_mem U
  refine wpAny_call (parse_spec (q := q) (v := v) (tv := tv) (b := b) (t1 := t1) (t2 := t2) (tq := tq) ⟨F.keep, X, T⟩ (x := x) (dx := dx) (y := y) ⟨(N _ m1).1, (N _ m2).1, (N _ m3).1⟩ (N _ m1).2.2 (N _ m2).2.2 (N _ m3).2.2 hd h1 h2 hz hm (fun _ h' tk q' t1' t2' tq' k e => ?_) fun hin => absurd hin he)
  exact h h' tk q' t1' t2' tq' (fr_but F k (N _ m2).2.2 (N _ m2).2.1) (news_but N U k e)
theorem item_known {value slice : Expr} {D : Addr} {cs : List (Array UInt8 × Tok)} {n : Nat} {k : Int} {u : Tok} {r : Array UInt8 × Tok} {Q : Value → Shared → Prop} (N : News h₀ L s.heap news) (hm : (D, PySem.W.listOf (cs.map byV).toArray n) ∈ news) (h0 : 0 ≤ k) (h1 : k < cs.length) (hf : cs.length ≤ 1000)
    (hr : cs[k.toNat]? = some r) (h : Q (.bytes r.1 r.2) s)
    (hs : subscripted slice false (.ref D) (.int k u) = operate [.ref D, .int k u] (getItem (.ref D) (.int k u)) := by with_unfolding_all rfl) (hg : ∀ r, letTemporaryGo value (.ref D) r = pure () := by intro _; with_unfolding_all rfl) :
    wpAny (model prog w) A (subscriptTail value slice (.ref D) (.int k u)) Q E s :=
  item_bytes N hm h0 h1 hf (fun r' hr' => by rw [hr] at hr'; cases hr'; exact h) hs hg
theorem slice_from {value slice : Expr} {b : Array UInt8} {t ui : Tok} {i : Int} {Q : Value → Shared → Prop} (hF : Fr h₀ L s.heap m) (hN : News h₀ L s.heap news) (hz : b.size ≤ 16777216) (h0 : 0 ≤ i) (h1 : i ≤ b.size)
    (h : ∀ h' t' k, Fr h₀ L h' m → News h₀ L h' news → Q (.bytes (b.toList.drop i.toNat).toArray t') { s with heap := h', toks := k })
    (hs : subscripted slice false (.bytes b t) (.ref s.heap.objs.size) = operate [.ref s.heap.objs.size, .bytes b t] (getItem (.bytes b t) (.ref s.heap.objs.size)) := by with_unfolding_all rfl)
    (ht : ∀ r, letTemporaryGo value (.bytes b t) r = pure () := by intro _; with_unfolding_all rfl) :
    wpAny (model prog w) A (subscriptTail value slice (.bytes b t) (.ref s.heap.objs.size)) Q E { s with heap := s.heap.push { cls := .type "slice", data := .fields #[.int i ui, .none, .none] } } := by
  refine KBc.slice_K (lo := some i) (hi := none) hF hN rfl (.int i ui) .none (by rw [KBw.ints_length]; exact hz) (fun h' t' k F' N' _ => ?_) hs ht
  have e : KBy.picked b (some i) none = (b.toList.drop i.toNat).toArray := by
    rw [KBc.picked_eq]
    simp only [Option.elim]
    rw [clip_pos h0, Nat.min_eq_left (by omega), List.take_of_length_le (by rw [List.length_drop, Array.length_toList]; exact Nat.le_refl _)]
  rw [e]
  exact h h' t' k F' N'
end
theorem RowsOk.size {text : Array UInt8} {cs ps} (h : RowsOk text cs ps) {k : Nat} {r : Array UInt8 × Tok} (hr : cs[k]? = some r) : r.1.size ≤ 200 := by
  have hk := (List.getElem?_eq_some_iff.mp hr).1
  exact (h.2 k r (ps[k]'(by rw [h.1]; exact hk)) hr (List.getElem?_eq_getElem _)).2.1
theorem RowsOk.place {text : Array UInt8} {cs ps} (h : RowsOk text cs ps) {k : Nat} {pl : Int × Tok} (hp : ps[k]? = some pl) : 0 ≤ pl.1 ∧ pl.1 ≤ text.size := by
  have hk := (List.getElem?_eq_some_iff.mp hp).1
  obtain ⟨a, b, c, post, d⟩ := h.2 k (cs[k]'(by rw [← h.1]; exact hk)) pl (List.getElem?_eq_getElem _) hp
  refine ⟨a, ?_⟩
  have := congrArg List.length d
  rw [List.length_drop, List.length_append, List.length_cons, Array.length_toList] at this
  omega
theorem row_hit {text big tail : Array UInt8} {cs ps} {k : Nat} {r : Array UInt8 × Tok} {pl : Int × Tok} {i : Int} (h : RowsOk text cs ps) (hr : cs[k]? = some r) (hp : ps[k]? = some pl) (h0 : 0 ≤ i) (h1 : i ≤ r.1.size) (hb : big.toList = text.toList ++ tail.toList) :
    (∃ post, big.toList.drop (pl.1 + i).toNat = r.1.toList.drop i.toNat ++ 0 :: post) ∧ (0 : UInt8) ∉ r.1.toList.drop i.toNat := by
  obtain ⟨a, b, c, post, d⟩ := h.2 k r pl hr hp
  have hl := (h.place hp).2
  refine ⟨⟨post ++ tail.toList, ?_⟩, fun hm => c (List.mem_of_mem_drop hm)⟩
  have e1 : big.toList.drop pl.1.toNat = r.1.toList ++ (0 :: (post ++ tail.toList)) := by
    rw [hb, List.drop_append_of_le_length (by rw [Array.length_toList]; omega), d]
    simp
  rw [show (pl.1 + i).toNat = pl.1.toNat + i.toNat from by omega, ← List.drop_drop, e1, List.drop_append_of_le_length (by rw [Array.length_toList]; omega)]
theorem tail_miss {text big tail : Array UInt8} {i : Int} (h0 : 0 ≤ i) (ht : (0 : UInt8) ∉ tail.toList) (hb : big.toList = text.toList ++ tail.toList) : (0 : UInt8) ∉ big.toList.drop ((text.size : Int) + i).toNat := by
  rw [hb, show ((text.size : Int) + i).toNat = text.toList.length + i.toNat from by rw [Array.length_toList]; omega, ← List.drop_drop, List.drop_left]
  exact fun hm => ht (List.mem_of_mem_drop hm)
theorem off {h : Heap} {a z : Addr} {o : Obj} (e : h.get? a = none) (q : h.get? z = some o) : @Ne Nat a z := by
  intro e2
  rw [show a = z from e2, q] at e
  cases e
end Mine
end
section
open PySem PySem.W PySem.Calls PyProof.Rows Builtin
set_option maxRecDepth 100000
set_option maxHeartbeats 4000000
namespace Mine
theorem offE1 : True := by
  w_top off
  trivial
def ByteAt (b : Array UInt8) (i : Nat) (v : Value) : Prop := ∃ c u, b[i]? = some c ∧ v = .int (c.toNat : Int) u
section
variable {prog : Program} {w : World} {A : Around} {E : Value → Shared → Prop} {s : Shared}
theorem extend_bytes {R : Result → Shared → Prop} (hh : A.handled = none) (x : Array UInt8) (t : Tok) (S : Addr) (res : Value) (c₀ : Nat) (hS : s.heap.get? S = some { cls := .type "list", data := .seq #[] c₀ })
    (hR : ∀ h' tk acc' c', (∀ b o, b ≠ S → s.heap.get? b = some o → h'.get? b = some o) → h'.get? S = some { cls := .type "list", dict := none, data := .seq acc' c', slots := #[] } →
      ItemsOf (ByteAt x) acc' x.size → R (.ok (.ret res)) { s with heap := h', toks := tk }) (hn : x.size ≤ sizeLine) :
    wpAny (model prog w) A.in1 (Builtin.List.listExtendWith (.ref S) (.bytes x t) res)
      (fun fin s' => match fin with | .done f => R (.ok f) s' | .again c' => c'.quiet = true ∧ codeAny (model prog w) A c' R s') (fun e s' => R (.error e) s') s := by
  have hSI : S ≠ s.heap.objs.size := Nat.ne_of_lt (Heap.lt_size hS)
  have hSf : S ∉ [s.heap.objs.size] := fun hm => hSI (List.mem_singleton.mp hm)
  unfold Builtin.List.listExtendWith
  refine wpAny_bind (wpAny_typeOf (T := "bytes") (v := .bytes x t) rfl ?_)
  have h1 : Builtin.List.listSameRef (.ref S) (.bytes x t) = false := rfl
  have h2 : (Value.type "bytes" == Value.type "list") = false := by decide
  have h3 : (Value.type "bytes" == Value.type "tuple") = false := by decide
  simp only [h1, h2, h3, Bool.or_false, Bool.false_eq_true, if_false]
  refine wpAny_bind (KBw.pyIter_bytes ?_)
  refine wpAny_bind (wpAny_holding ?_)
  unfold Builtin.List.listLengthHint
  refine wpAny_bind (wpAny_specialOf (T := "bytes") (v := .bytes x t) rfl FB.slot_bytes_len.lookup ?_)
  wp_delta
  refine wpAny_bind (wpAny_isInstance (T := "bytes") (v := .bytes x t) (b := true) rfl (by rw [isSubtype_type]; kernel_rfl) ?_)
  show wpAny _ _ (typeOf (Value.bytes x t) >>= _) _ _ _
  refine wpAny_bind (wpAny_typeOf (T := "bytes") (v := .bytes x t) rfl ?_)
  refine wpAny_pure ?_
  rw [if_neg (by decide)]
  refine wpAny_pure ⟨plainId_quiet F.plain_extend_loop _, codeAny_extend_loopS (KBw.walks (A := A.in1) hh s.heap.objs.size x t).toS hn _ hSf _ x.size 0 _ _ _ rfl (Nat.zero_le _) ⟨_, Heap.get?_push_size _ rfl, rfl, rfl⟩ (Heap.get?_push_of_some _ hS) (ItemsOf.nil _) fun s' acc' c' hm hS' hacc => ?_⟩
  rw [Moved.eq_with hm]
  refine hR s'.heap s'.toks acc' c' (fun b ob hb e => hm.heap b ob (fun hmem => ?_) (Heap.get?_push_of_some _ e)) hS' hacc
  rcases List.mem_cons.mp hmem with e' | hmem
  · exact hb e'
  · exact absurd (Heap.lt_size e) (by rw [List.mem_singleton.mp hmem]; exact Nat.lt_irrefl _)
theorem init_bytes {R : Result → Shared → Prop} (hh : A.handled = none) (x : Array UInt8) (t : Tok) (S : Addr) (hS : s.heap.get? S = some { cls := .type "list", data := .seq #[] })
    (hR : ∀ h' tk acc' c', (∀ b o, b ≠ S → s.heap.get? b = some o → h'.get? b = some o) → h'.get? S = some { cls := .type "list", dict := none, data := .seq acc' c', slots := #[] } →
      ItemsOf (ByteAt x) acc' x.size → R (.ok (.ret .none)) { s with heap := h', toks := tk }) (hn : x.size ≤ sizeLine) :
    wpAny (model prog w) A.in1 (Builtin.«list.__init__» ⟨[.ref S, .bytes x t], []⟩)
      (fun fin s' => match fin with | .done f => R (.ok f) s' | .again c' => c'.quiet = true ∧ codeAny (model prog w) A c' R s') (fun e s' => R (.error e) s') s := by
  show wpAny _ _ (do let old ← Builtin.List.listItems (.ref S); Builtin.List.listUpdate (.ref S) (fun _ => #[]); letGo old.toList.reverse; Builtin.List.listExtendWith (.ref S) (.bytes x t) .none) _ _ s
  refine wpAny_bind ?_
  unfold Builtin.List.listItems
  refine wpAny_bind (wpAny_seqItems hS rfl (wpAny_pure ?_))
  show wpAny _ _ (updateSeq S (fun _ => #[]) >>= fun _ => letGo (#[] : Array Value).toList.reverse >>= fun _ => Builtin.List.listExtendWith (.ref S) (.bytes x t) .none) _ _ s
  refine wpAny_bind (wpAny_updateSeq hS rfl ?_)
  have hS₂ := Heap.get?_update_self (Obj.mapSeq (fun _ => (#[] : Array Value))) hS rfl
  have oth : ∀ b o, b ≠ S → s.heap.get? b = some o → (s.heap.update S (Obj.mapSeq (fun _ => (#[] : Array Value)))).get? b = some o :=
    fun b o hb e => (Heap.get?_update_other _ _ (Ne.symm hb)).trans e
  refine wpAny_bind (wpAny_letGo ?_)
  refine extend_bytes (hn := hn) hh x t S .none _ hS₂ fun h' tk acc' c' hk hS' hacc => ?_
  exact hR h' tk acc' c' (fun b o hb e => hk b o hb (oth b o hb e)) hS' hacc
theorem call_list_bytes {Q : Value → Shared → Prop} (hh : A.handled = none) (x : Array UInt8) (t : Tok)
    (hQ : ∀ h' tk acc' c', (∀ b o, s.heap.get? b = some o → h'.get? b = some o) →
      h'.get? s.heap.objs.size = some { cls := .type "list", dict := none, data := .seq acc' c', slots := #[] } → ItemsOf (ByteAt x) acc' x.size → Q (.ref s.heap.objs.size) { s with heap := h', toks := tk }) (hn : x.size ≤ sizeLine) :
    wpAny (model prog w) A (call (.type "list") [.bytes x t]) Q E s := by
  refine callType_codes (Q₁ := fun obj s₁ => obj = .ref s.heap.objs.size ∧ s₁ = { s with heap := s.heap.push { cls := .type "list", data := .seq #[] } }) F.called_list (F.typeCall_list_1 _) F.entry_list_init
    (code_list_new _ ⟨rfl, rfl⟩) fun obj s₁ h₁ => ?_
  obtain ⟨rfl, rfl⟩ := h₁
  have hS : (s.heap.push { cls := .type "list", data := .seq #[] }).get? s.heap.objs.size = some { cls := .type "list", data := .seq #[] } := Heap.get?_push_size _ rfl
  refine ⟨⟨_, hS, rfl⟩, F.args_list_init_2 _ _, init_bytes (A := A.in1) (hn := hn) hh x t _ hS fun h' tk acc' c' hk hS' hacc => ?_⟩
  exact ⟨rfl, hQ h' tk acc' c' (fun b o e => hk b o (Nat.ne_of_lt (Heap.lt_size e)) (Heap.get?_push_of_some _ e)) hS' hacc⟩
variable {h₀ : Heap} {L : Addr} {m : Str → Option Value} {news : List (Addr × Obj)}
theorem list_bytes_K {b : Array UInt8} {t : Tok} {Q : Value → Shared → Prop} (hh : A.handled = none) (F : Fr h₀ L s.heap m) (N : News h₀ L s.heap news) (hz : b.size ≤ sizeLine)
    (h : ∀ D us c h' tk, Fr h₀ L h' m → News h₀ L h' ((D, PySem.W.listOf (List.toArray us) c) :: news) → (∀ p ∈ news, p.1 < D) → IntsAre us (b.toList.map fun c => (c.toNat : Int)) → Q (.ref D) { s with heap := h', toks := tk }) :
    wpAny (model prog w) A (call (.type "list") [.bytes b t]) Q E s := by
  refine call_list_bytes (hn := hz) hh b t fun h' tk acc c hk hD hI => ?_
  have hD' : h'.get? s.heap.objs.size = some (PySem.W.listOf (List.toArray acc.toList) c) := by
    rw [Array.toArray_toList]
    exact hD
  refine h _ acc.toList c h' tk (F.keeps hk) (news_pushed F N hk hD' rfl) (fun p hp => Heap.lt_size (N p hp).1) ?_
  have key : ∀ (us : List Value) (l : List UInt8), us.length = l.length → (∀ (j : Nat) (v : Value), us[j]? = some v → ∃ (c : UInt8) (u : Tok), l[j]? = some c ∧ v = Value.int (c.toNat : Int) u) → IntsAre us (l.map fun c => (c.toNat : Int)) := by
    intro us
    induction us with
    | nil => intro l hl _; cases l with
      | nil => exact .nil
      | cons a r => simp at hl
    | cons v r ih => intro l hl hj; cases l with
      | nil => simp at hl
      | cons a q =>
        obtain ⟨c, u, e1, e2⟩ := hj 0 v rfl
        cases e1
        subst e2
        exact .cons _ _ (ih q (by simpa using hl) fun j v hv => hj (j + 1) v hv)
  refine key _ _ (by rw [Array.length_toList (xs := acc), Array.length_toList (xs := b)]; exact hI.1) fun j v hj => ?_
  obtain ⟨c, u, e1, e2⟩ := hI.2 j v (by rw [← hj, Array.getElem?_toList])
  exact ⟨c, u, by rw [Array.getElem?_toList]; exact e1, e2⟩
end
end Mine
end
section
open PySem PySem.W PySem.Calls PyProof.Rows Builtin
set_option maxRecDepth 100000
set_option maxHeartbeats 4000000
namespace Mine
theorem offE2 : True := by
  w_top off
  trivial
section
variable {prog : Program} {w : World} {A : Around} {E : Value → Shared → Prop} {s : Shared} {h₀ : Heap} {L : Addr} {m : PySem.Str → Option Value} {env : Env}
def LettersPost (prog : Program) (w : World) (A : Around) (h₀ : Heap) (L : Addr) (m : PySem.Str → Option Value) (env : Env) (elt : Expr) (x : PySem.Str) (scope : Scope) (cl : List (PySem.Str × Addr)) (Q : Value → Shared → Prop) (xv : Value) (s₁ : Shared) : Prop :=
  ∃ news : List (Addr × Obj), ∃ (z : PySem.Str) (t : Tok), xv = .str z t ∧ z.cps.size ≤ sizeLine ∧ Fr h₀ L s₁.heap m ∧ News h₀ L s₁.heap news ∧
      (∀ C (c : Nat) u s₂ m₂ E', s₁.heap.objs.size ≤ C → c ∈ z.cps.toList → s₂.heap.Ns (compEnvC scope cl C env).locals m₂ → m₂ x = some (.str ⟨#[c]⟩ u) → (∀ b o, s₁.heap.get? b = some o → s₂.heap.get? b = some o) →
        wpAny (model prog w) A (eval elt (compEnvC scope cl C env)) (fun y s₃ => (∃ u', y = .int (c : Int) u') ∧ Keeps s₂ s₃) E' s₂) ∧
      (∀ D (ys : List Value) n h' tk, Fr h₀ L h' m → News h₀ L h' ((D, PySem.W.listOf ys.toArray n) :: news) → (∀ p ∈ news, p.1 ≠ D) → IntsAre ys (z.cps.toList.map fun (c : Nat) => (c : Int)) → Q (.ref D) { s₁ with heap := h', toks := tk })
theorem ListComp_letters {elt iter : Expr} {x : PySem.Str} {px : Pos} {scope : Scope} {cl : List (PySem.Str × Addr)} {pos : Pos} {Q : Value → Shared → Prop}
    (_F : Fr h₀ L s.heap m) (hh : A.handled = none) (hclos : closureFor scope env = pure cl) (hcell : ∀ y ∈ scope.names, y.2 ≠ .cell) (hkind : scope.kind = .function)
    (hnames : ∀ y ∈ scope.names, y.2 = .local → scope.names.lookup y.1 = some .local) (hx : scope.names.lookup x = some .local)
    (h : wpAny (model prog w) A (eval iter env) (LettersPost prog w A h₀ L m env elt x scope cl Q) E s)
    (hs : ∀ x, foldedSetIterable iter env x = pure x) :
    wpAny (model prog w) A (eval (.ListComp elt [⟨.Name x px, iter, [], 0⟩] scope pos) env) Q E s := by
  refine wpAny_ListComp_free (fun _ => true) (fun v y => ∃ c u u', v = .str ⟨#[c]⟩ u ∧ y = .int ((c : Nat) : Int) u') hclos hcell hkind hnames hx (wpAny_mono h (fun xv s₁ h₁ => ?_) fun _ _ e => e) hs
  obtain ⟨news, z, t, rfl, hsz, F, N, helt, hQ⟩ := h₁
  refine wpAny_pyIter_str fun o St W hst => ?_
  have up : ∀ (s₃ : Shared), (∀ b ob, b ∉ [s₁.heap.objs.size] → (s₁.heap.push o).get? b = some ob → s₃.heap.get? b = some ob) → ∀ b ob, s₁.heap.get? b = some ob → s₃.heap.get? b = some ob :=
    fun s₃ hk b ob e => hk b ob (fun hm => by rcases List.mem_cons.mp hm with rfl | hm; exact Nat.lt_irrefl _ (Heap.lt_size e); cases hm) (Heap.get?_push_of_some _ e)
  refine ⟨s₁.heap.objs.size, [s₁.heap.objs.size], [s₁.heap.objs.size], z.cps.size, _, St, rfl, W A hh, hsz, hst, ?_, ⟨?_, ?_⟩, ?_⟩
  · intro b hb
    show b < (s₁.heap.push o).objs.size
    rw [Heap.size_push, List.mem_singleton.mp hb]
    exact Nat.lt_succ_self _
  · intro C i v s₃ m₃ E' hC hP hn hm hk _
    exact wpAny_pure ⟨rfl, _, _, rfl, fun _ _ e => e⟩
  · intro C i v s₃ m₃ E' hC hP hp hn hm hk _
    obtain ⟨c, u, hc, rfl⟩ := hP
    exact wpAny_mono (helt C c u s₃ m₃ E' (Nat.le_of_succ_le (by simpa [Heap.size_push] using hC)) (List.mem_of_getElem? (by rw [Array.getElem?_toList]; exact hc)) hn hm (up s₃ hk)) (fun y s₄ h₄ => ⟨⟨c, u, h₄.1.choose, rfl, h₄.1.choose_spec⟩, h₄.2⟩) fun _ _ e => e
  · intro D h' tk ys vs' hnew hlD hplD hlen hP hF hk
    have keep : ∀ b ob, s₁.heap.get? b = some ob → h'.get? b = some ob := up { s₁ with heap := h' } hk
    rw [List.filter_eq_self.mpr (fun _ _ => rfl)] at hF
    have key : ∀ (l : List Nat) (vs ys : List Value), Paired (fun v y => ∃ (c : Nat) (u u' : Tok), v = .str ⟨#[c]⟩ u ∧ y = .int (c : Int) u') vs ys → vs.length = l.length → (∀ (j : Nat) (v : Value), vs[j]? = some v → ∃ (c : Nat) (u : Tok), l[j]? = some c ∧ v = .str ⟨#[c]⟩ u) → IntsAre ys (l.map fun (c : Nat) => (c : Int)) := by
      intro l
      induction l with
      | nil =>
        intro vs ys p hl _
        cases p with
        | nil => exact .nil
        | cons _ _ => simp at hl
      | cons a r ih =>
        intro vs ys p hl hj
        cases p with
        | nil => simp at hl
        | cons q p =>
          obtain ⟨c, u, u', e1, rfl⟩ := q
          obtain ⟨c2, u2, e2, e3⟩ := hj 0 _ rfl
          cases e2
          rw [e1] at e3
          cases e3
          exact .cons _ _ (ih _ _ p (by simpa using hl) fun j v hv => hj (j + 1) v hv)
    have hI := key z.cps.toList vs' ys.toList hF (by rw [hlen, Array.length_toList (xs := z.cps)]) fun j v hv => by
      obtain ⟨c, u, hc, e⟩ := hP j v hv
      exact ⟨c, u, by rw [Array.getElem?_toList]; exact hc, e⟩
    obtain ⟨n, hD⟩ := hplD
    have hD1 : s₁.heap.get? D = none := by
      cases e : s₁.heap.get? D with
      | none => rfl
      | some o' =>
        have hnew' : (s₁.heap.push o).get? D = none := hnew
        rw [Heap.get?_push_of_some _ e] at hnew'
        cases hnew'
    have hDL := none_below F hD1
    refine hQ D ys.toList n h' tk (F.keeps keep) ?_ (fun p hp e => by rw [← e, (N p hp).1] at hD1; cases hD1) hI
    intro p hp
    rcases List.mem_cons.mp hp with rfl | hp
    · exact ⟨by rw [Array.toArray_toList]; exact hD, hDL.2, hDL.1⟩
    · exact ⟨keep _ _ (N p hp).1, (N p hp).2⟩
end
end Mine
end
section
open PySem PySem.W PySem.Calls PyProof.Rows
set_option maxRecDepth 100000
set_option maxHeartbeats 4000000
namespace Mine
theorem offL3 : True := by
  w_top off
  trivial
def Hold (Q : Value → Shared → Prop) : Value → Shared → Prop := Q
theorem hold_in {M : Model} {A : Around} {E : Value → Shared → Prop} {s : Shared} {t : Sem Value} {Q : Value → Shared → Prop} (h : wpAny M A t (Hold Q) E s) : wpAny M A t Q E s := h
theorem add_0 {prog : Program} {w : World} {A : Around} {E : Value → Shared → Prop} {s : Shared} {b : Array UInt8} {t u : Tok} {Q : Value → Shared → Prop} (hsz : b.size + 1 ≤ 16777216) (h : ∀ (r : Array UInt8) t' k, r.toList = b.toList ++ [0] → r.size = b.size + 1 → Q (.bytes r t') { s with toks := k }) :
    wpAny (model prog w) A (binaryOp .Add (.bytes b t) (.bytes #[0] u)) Q E s := add_o hsz h
theorem latin_line {b : Array UInt8} (h : b.size ≤ 200) : (latin b).cps.size ≤ sizeLine := by
  unfold latin
  rw [List.size_toArray, List.length_map, Array.length_toList, sizeLine_eq]
  omega
theorem latin_ints (b : Array UInt8) : ((latin b).cps.toList.map fun (c : Nat) => (c : Int)) = b.toList.map fun c => (c.toNat : Int) := by
  unfold latin
  simp
theorem ne_lists {prog : Program} {w : World} {A : Around} {E : Value → Shared → Prop} {s : Shared} {h₀ : Heap} {L : Addr} {news : List (Addr × Obj)} {a b : Addr} {xs ys : List Value} {ns : List Int} {n k : Nat} {Q : Value → Shared → Prop} (N : News h₀ L s.heap news)
    (ha : (a, PySem.W.listOf xs.toArray n) ∈ news) (hb : (b, PySem.W.listOf ys.toArray k) ∈ news) (hi : IntsAre xs ns) (hj : IntsAre ys ns) (hu : A.units + 64 < cLine) (h : Q (.bool false) s) : wpAny (model prog w) A (compareOp .NotEq (.ref a) (.ref b)) Q E s := by
  refine ke_ne_ints (isList_of (N _ ha).1) (isList_of (N _ hb).1) hi hj hu ?_
  rw [show (!decide (ns = ns)) = false from by simp]
  exact h
structure Apart (a b : Addr) : Prop where
  ne : a ≠ b
theorem Apart.l {a b : Addr} (h : Apart a b) : a ≠ b := h.ne
theorem Apart.r {a b : Addr} (h : Apart b a) : a ≠ b := h.ne.symm
theorem Apart.off {h : Heap} {a z : Addr} {o : Obj} (e : h.get? a = none) (q : h.get? z = some o) : Apart a z := ⟨Mine.off e q⟩
structure St2 where
  c : Int
  bb : Int
  q : Int
  tc : Tok
  tb : Tok
  tq : Tok
  n : Nat
  pos : Int
  u1 : Tok
  u2 : Tok
  u3 : Tok
structure St1 where
  cs : List (Array UInt8 × Tok)
  n1 : Nat
  ps : List (Int × Tok)
  n2 : Nat
  text : Array UInt8
  tt : Tok
  c : Int
  bb : Int
  q : Int
  tc : Tok
  tb : Tok
  tq : Tok
  n : Nat
theorem fragOnL3 : (fun (_ : OpenLaw) (_ : Params → Frag) => True) PySem.Challenge.rw_ez0261_01 hd.heap_39 := by
  k_fill
  trivial
local macro_rules | `(tactic| k_ne) => `(tactic| first | exact Apart.l (by assumption) | exact Apart.r (by assumption))
local macro_rules | `(tactic| walk_at "compareOp NotEq ref ref") => `(tactic| (k_here; (with_reducible show wpAny _ _ (compareOp CmpOp.NotEq (Value.ref _) (Value.ref _)) _ _ _); (with_reducible rename News _ _ _ _ => lN'); (refine' ne_lists lN' ?a ?b ?c ?d ?e ?_); (case a => k_mem); (case b => k_mem); (case c => assumption); (case d => assumption); (case e => (simp only [Around.deeper_units, Around.in1_units]; omega))))
local macro_rules | `(tactic| walk_at "eval ListComp") => `(tactic| (k_here; k_dflt (refine' ListComp_letters ?F ?hh ?hclos ?hcell ?hkind ?hnames ?hx ?_ ?hs; (case F => k_asm); (case hh => exact rfl); (case hclos => with_unfolding_all rfl); (case hcell => decide); (case hkind => with_unfolding_all rfl); (case hnames => decide); (case hx => with_unfolding_all rfl); (case hs => intro _; with_unfolding_all rfl); k_whole)))
local macro_rules | `(tactic| walk_at "call ref") => `(tactic| (k_here; (with_reducible show wpAny _ _ (call (Value.ref 585) [Value.bytes _ _]) _ _ _); k_dflt (refine' b2s_use ?k1 ?k2 ?k3 ?k4 ?k5 ?k6 ?k7 ?_; (case k1 => k_asm); (case k2 => k_asm); (case k3 => k_asm); (case k4 => k_asm); (case k5 => exact rfl); (case k6 => (simp only [depth_deeper, depth_in1]; omega)); (case k7 => (rw [List.size_toArray, List.length_drop, Array.length_toList]; omega)); k_whole); intro h' tk' t' F' N'))
local macro_rules | `(tactic| walk_at "call type:list") => `(tactic| (k_here; (with_reducible show wpAny _ _ (call (Value.type "list") [Value.bytes _ _]) _ _ _); k_dflt (refine' list_bytes_K ?k1 ?k2 ?k3 ?k4 ?_; (case k1 => exact rfl); (case k2 => k_asm); (case k3 => k_asm); (case k4 => (rw [sizeLine_eq, List.size_toArray, List.length_drop, Array.length_toList]; omega)); k_whole); intro D' us' c' h' tk' F' N' l1 I'; (try k_lt l1)))
theorem ne_same {prog : Program} {w : World} {A : Around} {E : Value → Shared → Prop} {s : Shared} {b : Array UInt8} {t u : Tok} {Q : Value → Shared → Prop} (h : Q (.bool false) s) : wpAny (model prog w) A (compareOp .NotEq (.bytes b t) (.bytes b u)) Q E s := by
  refine ne_bytes ?_
  rw [show (b.toList != b.toList) = false from by simp]
  exact h
local macro_rules | `(tactic| walk_at "compareOp NotEq bytes bytes") => `(tactic| (k_here; refine ne_same ?_))
local macro_rules | `(tactic| walk_at "call ref") => `(tactic| (k_here; (show wpAny _ _ (call (Value.ref 230) [Value.ref _, Value.int _ _]) _ _ _); k_dflt (refine' seek_use ?k1 ?k2 ?k3 ?k4 ?k5 ?k6 ?k7 ?k8 ?k9 ?ka ?kb ?_; (case k1 => k_asm); (case k2 => k_asm); (case k3 => k_asm); (case k4 => k_asm); (case k5 => exact rfl); (case k6 => (simp only [depth_deeper, depth_in1]; omega)); (case k7 => k_mem); (case k8 => k_updF); (case k9 => k_mem); (case ka => omega); (case kb => omega); k_whole); intro h' tk' t' t1' t2' tq' F' N'; (try dsimp only at N')))
local macro_rules | `(tactic| walk_at "call ref") => `(tactic| (k_here; (with_reducible show wpAny _ _ (call (Value.ref 593) [Value.ref _, Value.int _ _]) _ _ _); k_dflt (refine' parse_miss ?k1 ?k2 ?k3 ?k4 ?k5 ?k6 ?k7 ?k8 ?k9 ?ka ?kb ?kc ?kd ?ke ?_; (case k1 => k_asm); (case k2 => k_asm); (case k3 => k_asm); (case k4 => k_asm); (case k5 => exact rfl); (case k6 => (simp only [depth_deeper, depth_in1]; omega)); (case k7 => k_mem); (case k8 => k_updF); (case k9 => k_mem); (case kd => exact .inr rfl); (case ka => omega); (case kb => omega); (case kc => assumption); (case ke => exact tail_miss (by assumption) (by assumption) (by assumption)); k_whole); intro h' tk' q' t1' t2' tq' F' N'; (try dsimp only at N')))
local macro_rules | `(tactic| walk_at "call ref") => `(tactic| (k_here; (with_reducible show wpAny _ _ (call (Value.ref 593) [Value.ref _, Value.int _ _]) _ _ _); k_dflt (refine' parse_hit ?k1 ?k2 ?k3 ?k4 ?k5 ?k6 ?k7 ?k8 ?k9 ?ka ?kb ?kc ?kd ?ke ?_; (case k1 => k_asm); (case k2 => k_asm); (case k3 => k_asm); (case k4 => k_asm); (case k5 => exact rfl); (case k6 => (simp only [depth_deeper, depth_in1]; omega)); (case k7 => k_mem); (case k8 => k_updF); (case k9 => k_mem); (case kd => exact .inr rfl); (case ka => omega); (case kb => omega); (case kc => assumption); (case ke => exact row_hit (by assumption) (by assumption) (by assumption) (by assumption) (by omega) (by assumption)); k_whole); intro h' tk' q' t1' t2' tq' t' F' N'; (try dsimp only at N')))
local macro_rules | `(tactic| walk_at "call ref") => `(tactic| (k_here; (with_reducible show wpAny _ _ (call (Value.ref 593) [Value.ref _]) _ _ _); k_dflt (refine' parse_hit (more := []) (tv := 0) ?k1 ?k2 ?k3 ?k4 ?k5 ?k6 ?k7 ?k8 ?k9 ?ka ?kb ?kc ?kd ?ke ?_; (case k1 => k_asm); (case k2 => k_asm); (case k3 => k_asm); (case k4 => k_asm); (case k5 => exact rfl); (case k6 => (simp only [depth_deeper, depth_in1]; omega)); (case k7 => k_mem); (case k8 => k_updF); (case k9 => k_mem); (case kd => exact .inl ⟨rfl, rfl⟩); (case ka => omega); (case kb => omega); (case kc => assumption); (case ke => exact row_hit (by assumption) (by assumption) (by assumption) (by assumption) (by omega) (by assumption)); k_whole); intro h' tk' q' t1' t2' tq' t' F' N'; (try dsimp only at N')))
local macro_rules | `(tactic| walk_at "subscriptTail") => `(tactic| (k_here; (with_reducible show wpAny _ _ (subscriptTail _ _ (Value.ref _) (Value.int _ _)) _ _ _); (with_reducible rename News _ _ _ _ => lN'); (with_unfolding_all refine' item_bytes lN' ?m ?a ?b ?c ?_); (case m => k_mem); (case a => assumption); (case b => assumption); (case c => omega); intro r' hr'; (have hz' := RowsOk.size (by assumption) hr')))
local macro_rules | `(tactic| walk_at "subscriptTail") => `(tactic| (k_here; (with_reducible show wpAny _ _ (subscriptTail _ _ (Value.ref _) (Value.int _ _)) _ _ _); (with_reducible rename News _ _ _ _ => lN'); (with_unfolding_all refine' item_known lN' ?m ?a ?b ?c (by assumption) ?_); (case m => k_mem); (case a => assumption); (case b => assumption); (case c => omega)))
local macro_rules | `(tactic| walk_at "subscriptTail") => `(tactic| (k_here; (with_reducible show wpAny _ _ (subscriptTail _ _ (Value.ref _) (Value.int _ _)) _ _ _); (with_reducible rename News _ _ _ _ => lN'); (with_unfolding_all refine' item_ints lN' ?m ?a ?b ?c ?_); (case m => k_mem); (case a => assumption); (case b => omega); (case c => omega); intro r' hr'; (have hz' := RowsOk.place (by assumption) hr'); obtain ⟨hz1', hz2'⟩ := hz'))
local macro_rules | `(tactic| walk_at "subscriptTail") => `(tactic| (k_here; (with_reducible show wpAny _ _ (subscriptTail _ (Expr.Slice _ _ none _) (Value.bytes _ _) (Value.ref _)) _ _ _); (with_reducible rename Fr _ _ _ _ => lF'); (with_reducible rename News _ _ _ _ => lN'); (refine slice_from (s := ⟨_, _, _, _, _⟩) lF' lN' (by omega) (by assumption) (by omega) ?_); intro h' t' k' F' N'))
local macro_rules | `(tactic| walk_at "call builtin:len") => `(tactic| (k_here; (with_reducible show wpAny _ _ (call (Value.builtin "len") [Value.ref _]) _ _ _); (with_reducible rename News _ _ _ _ => lN'); (refine' len_byL lN' ?m ?z ?_); (case m => k_mem); (case z => omega); intro t' tk'))
local macro_rules | `(tactic| walk_at "call ref") => `(tactic| (k_here; (with_reducible show wpAny _ _ (call (Value.ref 598) [Value.ref _]) _ _ _); k_dflt (refine' box_use ?k1 ?k2 ?k3 ?k5 ?k6 ?k7 ?k8 ?k9 ?_; (case k1 => k_asm); (case k2 => k_asm); (case k3 => k_asm); (case k5 => exact rfl); (case k6 => (simp only [depth_deeper, depth_in1]; omega)); (case k7 => assumption); (case k8 => assumption); (case k9 => assumption); k_whole); intro bx' ib' vs' n' h' tk' t1' t2' t3' F' N' lt' I'))
local macro_rules | `(tactic| walk_at "call ref") => `(tactic| (k_here; (with_reducible show wpAny _ _ (call (Value.ref 605) [Value.ref _, Value.int _ _]) _ _ _); k_dflt (refine' take_use ?k1 ?k2 ?k3 ?k4 ?k5 ?k6 ?k7 ?k8 ?k9 ?ka ?kb ?kc ?kd ?ke ?kf ?_; (case k1 => k_asm); (case k2 => k_asm); (case k3 => k_asm); (case k4 => k_asm); (case k5 => exact rfl); (case k6 => (simp only [depth_deeper, depth_in1]; omega)); (case k7 => k_updF); (case k8 => k_mem); (case k9 => assumption); (case ka => assumption); (case kb => assumption); (case kc => assumption); (case kd => omega); (case ke => omega); (case kf => assumption); k_whole); intro k' t' c' bb' q' tc' tb' tq' n' h' tk' k0' k1' ok' F' N'; (try dsimp only at N')))
local macro_rules | `(tactic| walk_at "call ref") => `(tactic| (k_here; (with_reducible show wpAny _ _ (call (Value.ref 612) [Value.ref _, Value.ref _]) _ _ _); k_dflt (refine' pick_use ?k1 ?k2 ?k3 ?k4 ?k5 ?k6 ?k7 ?k8 ?k9 ?ka ?kb ?kc ?kd ?ke ?kf ?kg ?kh ?ki ?_; (case k1 => k_asm); (case k2 => k_asm); (case k3 => k_asm); (case k4 => k_asm); (case k5 => exact rfl); (case k6 => (simp only [depth_deeper, depth_in1]; omega)); (case k7 => k_updF); (case k8 => k_mem); (case k9 => assumption); (case ka => assumption); (case kb => assumption); (case kc => assumption); (case kd => assumption); (case ke => k_mem); (case kf => l_ints); (case kg => (simp only [List.length_cons, List.length_nil]; omega)); (case kh => (simp only [List.length_cons, List.length_nil]; omega)); (case ki => (show @Ne Nat _ _; omega)); k_whole); intro k' t' c' bb' q' tc' tb' tq' n' h' tk' hmem' ok' F' N'; (try dsimp only at N'); (have hb' : 0 ≤ k' ∧ k' ≤ 200 := by (simp only [List.mem_cons, List.not_mem_nil, or_false] at hmem'; omega)); obtain ⟨hb1', hb2'⟩ := hb'))
local macro_rules | `(tactic| walk_at "binaryOp Mult bytes int") => `(tactic| (k_here; (with_reducible show wpAny _ _ (binaryOp Operator.Mult (Value.bytes _ _) (Value.int _ _)) _ _ _); (refine mul_o (by omega) (by omega) ?_); intro r' t' k' hr' hs'))
local macro_rules | `(tactic| walk_at "binaryOp Add bytes bytes") => `(tactic| (k_here; (with_reducible show wpAny _ _ (binaryOp Operator.Add (Value.bytes _ _) (Value.bytes _ _)) _ _ _); (refine add_o (by omega) ?_); intro r' t' k' hr' hs'))
local macro_rules | `(tactic| walk_at "binaryOp Add bytes bytes") => `(tactic| (k_here; (with_reducible show wpAny _ _ (binaryOp Operator.Add (Value.bytes _ _) (Value.bytes #[0] _)) _ _ _); (refine add_0 (by omega) ?_); intro r' t' k' hr' hs'))
local macro_rules | `(tactic| walk_at "call builtin:list.append") => `(tactic| (k_here; (with_reducible show wpAny _ _ (call (Value.builtin "list.append") [Value.ref _, Value.bytes _ _]) _ _ _); k_dflt (refine' append_bytes ?k1 ?k2 ?k3 ?k4 ?_; (case k1 => k_asm); (case k2 => k_asm); (case k3 => k_updF); (case k4 => omega); k_whole); intro h' F' N'; (try dsimp only at N')))
local macro_rules | `(tactic| walk_at "call builtin:list.append") => `(tactic| (k_here; (with_reducible show wpAny _ _ (call (Value.builtin "list.append") [Value.ref _, Value.int _ _]) _ _ _); k_dflt (refine' append_ints ?k1 ?k2 ?k3 ?k4 ?_; (case k1 => k_asm); (case k2 => k_asm); (case k3 => k_updF); (case k4 => omega); k_whole); intro h' F' N'; (try dsimp only at N')))
local macro_rules | `(tactic| walk_at "call builtin:len") => `(tactic| (k_here; (with_reducible show wpAny _ _ (call (Value.builtin "len") [Value.bytes _ _]) _ _ _); (refine len_bytes (by omega) ?_)))
section
variable {prog : Program} {w : World} {A : Around} {E : Value → Shared → Prop} {s : Shared} {p : Program} {loose : List Str} {mean : ExcName → Option Value} {mg mb : Str → Option Value} {h₀ : Heap} {dp un : Nat} {gd : Option (List Code)} {fr : Option (List Env)} {L : Addr} {m : Str → Option Value} {news : List (Addr × Obj)} {g : Obj → List (Addr × Obj)}
theorem law_spec {R : Result → Shared → Prop} {l : Addr} {vs : List Value} {ns : List Int} (Z : Base prog w p loose mean mg mb h₀ s.heap) (hl : h₀.IsList l vs.toArray) (hi : IntsAre vs ns) (hn : ns.length ≤ 63) (hdp : dp + 100 < recursionLimit) (hun : un + 500 < cLine)
    (hR : ∀ h' tk, (∀ a o, s.heap.get? a = some o → h'.get? a = some o) → R (.ok (.ret (.bool true))) { s with heap := h', toks := tk }) :
    codeG (model prog w) { handled := none, depth := dp, frames := fr, guards := gd, units := un } (.call (.ref 617) ⟨[.ref l], []⟩) R s := by
  have X0 : (hd.heap_39 w.params).In s.heap := Z.X.keeps Z.keep
  refine' call_butG (bs := []) Z ?hb ?k6 ?k7 ?k8 ?k9 ?kB ?_ ?c2 ?c3 ?c4 ?c5
  case hb => exact fun _ hq => nomatch hq
  case k6 => k_is
  case k7 => k_is
  case k8 => show dp < recursionLimit; omega
  case k9 => first | exact BindsTo.of_eq rfl | exact binds_K X0 rfl (by k_is) rfl rfl rfl
  case kB => exact locs rfl
  case c5 => decide
  case c2 => exact rfl
  case c3 => exact rfl
  case c4 => exact rfl
  intro g L' h₁ Z' kg F N X T
  have hlg : g.IsList l vs.toArray := hl.at fun o e => kg _ _ (fun q => nomatch q) (Z.keep _ _ e)
  have hpos := absL_pos ns
  have hlen : (absL ns).length ≤ 63 := by rw [absL_len]; exact hn
  have ok0 : BoxOk 0 0 0 := ⟨by decide, by decide, by decide, by decide, by decide⟩
  generalize hB1 : (Stmt.Assign [Expr.Name (Str.ofString "size") _] _ _ :: _) = B1
  generalize hB2 : (Stmt.Assign [Expr.Name (Str.ofString "k") _] _ _ :: _) = B2
  refine wpG_execs_any ?_
  k_steps
  rename_i bx ib vs1 nn _ _ _ _ _ hib I1 _ F1 N1
  refine wpG_execs_any ?_
  k_steps
  rename_i _ Rw _ lRw Pl _ lPl Sv _ lSv _ _ _ _ _ kt _ c0 bb0 q0 tc0 tb0 tq0 nb _ _ kt0 kt1 ok1 text0 tt0 _ hr0 hs0 Dt _ lDt _ _ _ _ F2 N2
  have hsz0 : text0.size ≤ 80 := by omega
  have N3 := kst_newsOf (l' := [(Pl, PySem.W.listOf (([] : List (Int × Tok)).map inV).toArray 0), (Rw, PySem.W.listOf (([] : List (Array UInt8 × Tok)).map byV).toArray 0), (bx, boxOf c0 bb0 q0 tc0 tb0 tq0 ib nb), (ib, PySem.W.listOf vs1.toArray nn)]) N2 (fun p hp => .tail _ (.tail _ hp))
  clear N2
  clear lDt lSv hr0 hs0 kt0 kt1
  refine wpG_execs_any ?_
  with_unfolding_all refine' For_invVF F2 ?k1 ?k2 ?_
  case k1 => exact rfl
  case k2 => exact rfl
  refine hold_in ?_
  k_steps
  rename_i kn _ c1 bb1 q1 tc1 tb1 tq1 n1 _ _ kn0 kn1 ok2 F3 N4 _ tk3 _ _ _ IR F4 N5 _
  have hn := rangeSize_nat 0 (1 + kn)
  have hsm : Builtin.Range.small 0 (1 + kn) 1 = true := small_one (by omega) (by omega) (by omega) (by omega)
  refine kst_range (σ := St1)
    (fun c => [(Pl, PySem.W.listOf (c.ps.map inV).toArray c.n2), (Rw, PySem.W.listOf (c.cs.map byV).toArray c.n1), (bx, boxOf c.c c.bb c.q c.tc c.tb c.tq ib c.n), (ib, PySem.W.listOf vs1.toArray nn)])
    (fun c => [(Str.ofString "text", .bytes c.text c.tt)]) (fun _ => True) [Str.ofString "size", Str.ofString "some", Str.ofString "row"]
    (fun pre c => BoxOk c.c c.bb c.q ∧ RowsOk c.text c.cs c.ps ∧ c.cs.length = pre.length ∧ c.text.size ≤ 80 + 201 * pre.length)
    ⟨[], 0, [], 0, text0, tt0, c1, bb1, q1, tc1, tb1, tq1, n1⟩ rfl IR hsm hn F4 N5 trivial ?_ ⟨ok2, RowsOk.nil _, rfl, hsz0⟩ ?_ ?_
  · intro q hq
    rcases List.mem_singleton.mp hq with rfl
    rfl
  · clear F2 N3 F3 N4 F4 N5
    intro c pre k t u h tk own hk hlt hoff _ hp F5 N6
    obtain ⟨hok, hrows, hcl, hts⟩ := hp
    have hcl3 : c.cs.length ≤ 3 := by omega
    have hpl3 : c.ps.length ≤ 3 := by rw [hrows.1]; exact hcl3
    have hts3 : c.text.size ≤ 683 := by omega
    simp only [List.cons_append, List.nil_append] at N6
    subst hB1
    k_steps
    rename_i hb9a _ ra _ _ hra hsa k5 _ c9 bb9 q9 tc9 tb9 tq9 n9 _ _ k50 k51 ok9 _ _ _ _ _ _ hb9b _ rb _ _ hrb hsb row trow _ hrow hsrow _ _ _ tkz _ t1 _ _ ht1 hs1 t2 tt2 _ ht2 hs2 _ F9 N9
    have h00 : ((0 : UInt8).toNat : Int) = 0 := rfl
    have hrow0 : (0 : UInt8) ∉ row.toList := by
      rw [hrow, hra, hrb]
      intro hm
      rcases List.mem_append.mp hm with q | q
      · rw [← (List.mem_replicate.mp q).2] at hb9a; omega
      · rw [← (List.mem_replicate.mp q).2] at hb9b; omega
    refine kst_end (⟨c.cs ++ [(row, trow)], c.n1 + 1, c.ps ++ [((c.text.size : Int), tkz + 1)], c.n2 + 1, t2, tt2, c9, bb9, q9, tc9, tb9, tq9, n9⟩ : St1) F9 N9 ?hn ?ho ?ha trivial ?hk ?hr ?hp
    case hn => exact fun p hp => .tail _ (.tail _ (.tail _ (List.mem_append_left own hp)))
    case ha => rfl
    case ho => exact fun p hp => .tail _ (.tail _ (.tail _ (.tail _ (.tail _ (.tail _ (.tail _ hp))))))
    case hk =>
      intro q hq
      rcases List.mem_singleton.mp hq with rfl
      rfl
    case hr =>
      intro z hz h2 h3
      have h2' := h2 _ (.head _)
      simp only [List.contains_cons, List.contains_nil, Bool.or_false, Bool.or_eq_false_iff, beq_eq_false_iff_ne, ne_eq] at h3
      dsimp only at h2'
      simp [h2', h3, hz, kstB]
    case hp =>
      refine ⟨ok9, hrows.snoc (by omega) hrow0 (by rw [ht2, ht1]), ?_, ?_⟩
      · dsimp only
        rw [List.length_append, List.length_append, hcl]; rfl
      · dsimp only
        rw [List.length_append, List.length_singleton]
        omega
  · clear F2 N3 F3 N4 F4 N5
    intro c u h tk _ hp F5 N6
    obtain ⟨hok, hrows, hcl, hts⟩ := hp
    rw [rangeKs_length] at hcl hts
    have hcl4 : c.cs.length ≤ 4 := by omega
    have hcl1 : 1 ≤ c.cs.length := by omega
    have hts4 : c.text.size ≤ 900 := by omega
    clear hcl hts
    show wpG _ _ (execs _ _) _ _ _
    refine wpG_execs_any ?_
    k_steps
    rename_i _ _ _ _ _ _ _ _ _ _ _ _ _ _ ok5 _ _ _ _ _ hb9t _ _ _ _ _ _ _ _ c5 bb5 q5 tc5 tb5 tq5 n5 _ _ hmt ok6 _ _ _ _ tail ttl _ htl hstl _ F6 N7
    have h00 : ((0 : UInt8).toNat : Int) = 0 := rfl
    have htail0 : (0 : UInt8) ∉ tail.toList := by
      rw [htl]
      intro hm
      rw [← (List.mem_replicate.mp hm).2] at hb9t; omega
    have htailz : tail.size ≤ 200 := by omega
    have N8 := kst_newsOf (l' := [(Pl, PySem.W.listOf (c.ps.map inV).toArray c.n2), (Rw, PySem.W.listOf (c.cs.map byV).toArray c.n1), (bx, boxOf c5 bb5 q5 tc5 tb5 tq5 ib n5), (ib, PySem.W.listOf vs1.toArray nn)]) N7 (fun p hp => .tail _ (.tail _ hp))
    clear N7
    refine wpG_execs_cons (wpG_Assign_Name (wpG_Call_Name ?_))
    walk1
    refine' callWithG_K (K := hd.heap_39 w.params) ?a ?_
    case a => k_is
    k_steps
    rename_i big _ _ hbig hbigs
    refine wpG_call ?_
    refine as_streamG (s := { s with heap := _, toks := _ }) (dp := dp + 1) (h₀ := g) ⟨F6.keep, X, T⟩ (by rw [sizeLine_eq]; omega) (by omega) fun h' tk x dx y u1 u2 u3 kp nx ndx ny lt1 ne1 ne2 gx gdx gy => ?_
    have F7 := fr_ext F6 kp
    have N9 := news_ext N8 kp
    have hx := none_below F6 nx
    have hdx := none_below F6 ndx
    have hy := none_below F6 ny
    have ap1 : Apart y x := ⟨ne1⟩
    have ap2 : Apart y dx := ⟨ne2⟩
    clear ne1 ne2
    have e1 := Apart.off nx (N8 _ (.head _)).1
    have e2 := Apart.off nx (N8 _ (.tail _ (.head _))).1
    have e3 := Apart.off nx (N8 _ (.tail _ (.tail _ (.head _)))).1
    have e4 := Apart.off nx (N8 _ (.tail _ (.tail _ (.tail _ (.head _))))).1
    have e5 := Apart.off ndx (N8 _ (.head _)).1
    have e6 := Apart.off ndx (N8 _ (.tail _ (.head _))).1
    have e7 := Apart.off ndx (N8 _ (.tail _ (.tail _ (.head _)))).1
    have e8 := Apart.off ndx (N8 _ (.tail _ (.tail _ (.tail _ (.head _))))).1
    have e9 := Apart.off ny (N8 _ (.head _)).1
    have e10 := Apart.off ny (N8 _ (.tail _ (.head _))).1
    have e11 := Apart.off ny (N8 _ (.tail _ (.tail _ (.head _)))).1
    have e12 := Apart.off ny (N8 _ (.tail _ (.tail _ (.tail _ (.head _))))).1
    have N10 : News g L' h' [(x, instObj 322 dx), (dx, streamDict w y 0 u1 u2 u3), (y, baOf big), (Pl, PySem.W.listOf (c.ps.map inV).toArray c.n2), (Rw, PySem.W.listOf (c.cs.map byV).toArray c.n1), (bx, boxOf c5 bb5 q5 tc5 tb5 tq5 ib n5), (ib, PySem.W.listOf vs1.toArray nn)] := by
      intro p hp
      rcases List.mem_cons.mp hp with rfl | hp
      · exact ⟨gx, hx.2, hx.1⟩
      rcases List.mem_cons.mp hp with rfl | hp
      · exact ⟨gdx, hdx.2, hdx.1⟩
      rcases List.mem_cons.mp hp with rfl | hp
      · exact ⟨gy, hy.2, hy.1⟩
      exact N9 p hp
    clear N8 N9
    show wpAny _ _ (storeName _ _ _) _ _ _
    walk1
    refine wpG_execs_any ?_
    rename_i F8 N11
    have hbigz : big.size ≤ sizeLine := by rw [sizeLine_eq]; omega
    with_unfolding_all refine' For_invVF F8 ?k1 ?k2 ?_
    case k1 => exact rfl
    case k2 => exact rfl
    refine hold_in ?_
    k_steps
    unfold Hold
    rename_i IR F9 N12 _
    refine kst_range (σ := St2)
      (fun d => [(x, instObj 322 dx), (dx, streamDict w y d.pos d.u1 d.u2 d.u3), (y, baOf big), (Pl, PySem.W.listOf (c.ps.map inV).toArray c.n2), (Rw, PySem.W.listOf (c.cs.map byV).toArray c.n1), (bx, boxOf d.c d.bb d.q d.tc d.tb d.tq ib d.n), (ib, PySem.W.listOf vs1.toArray nn)])
      (fun d => []) (fun _ => True) [Str.ofString "k", Str.ofString "at", Str.ofString "told"]
      (fun pre d => BoxOk d.c d.bb d.q)
      ⟨c5, bb5, q5, tc5, tb5, tq5, n5, 0, u1, u2, u3⟩ rfl IR (small_one (by decide) (by decide) (by decide) (by decide)) (rangeSize_nat 0 6) F9 N12 trivial ?_ ok6 ?_ ?_
    · exact fun q hq => nomatch hq
    · clear F9 N12
      intro d pre k t u' h tk _own hk hlt hoff _ okd F5 N6
      simp only [List.cons_append, List.nil_append] at N6
      have hplen := hrows.1
      subst hB2
      k_steps
      all_goals
        rename Fr _ _ _ _ => F9
        rename News _ _ _ _ => N9
        refine ⟨_, _, _, rfl, latin_line (by rw [List.size_toArray, List.length_drop, Array.length_toList]; omega), F9, N9, ?_, ?_⟩
        · intro C cc uu s2 m2 E' hC hm hns hmx keep
          k_steps
          exact ⟨_, _, rfl, fun _ _ e => e⟩
        · intro D ys nD h' tk' F10 N10 apD ID
          clear F9 N9
          rw [latin_ints] at ID
          have d0 : Apart D x := Apart.mk (Ne.symm (apD _ (.head _)))
          have d1 : Apart D dx := Apart.mk (Ne.symm (apD _ (.tail _ (.head _))))
          have d2 : Apart D y := Apart.mk (Ne.symm (apD _ (.tail _ (.tail _ (.head _)))))
          have d3 : Apart D Pl := Apart.mk (Ne.symm (apD _ (.tail _ (.tail _ (.tail _ (.head _))))))
          have d4 : Apart D Rw := Apart.mk (Ne.symm (apD _ (.tail _ (.tail _ (.tail _ (.tail _ (.head _)))))))
          have d5 : Apart D bx := Apart.mk (Ne.symm (apD _ (.tail _ (.tail _ (.tail _ (.tail _ (.tail _ (.head _))))))))
          have d6 : Apart D ib := Apart.mk (Ne.symm (apD _ (.tail _ (.tail _ (.tail _ (.tail _ (.tail _ (.tail _ (.head _)))))))))
          clear apD
          k_steps
          rename_i _ _ ce bbe qe tce tbe tqe ne _ _ _ _ oke _ _ _ _ pe v1 v2 v3 F12 N13
          refine kst_end (⟨ce, bbe, qe, tce, tbe, tqe, ne, pe, v1, v2, v3⟩ : St2) F12 N13 ?hn ?ho ?ha trivial ?hk ?hr ?hp
          case hn => exact fun p hp => .tail _ (.tail _ (List.mem_append_left _own hp))
          case ha => rfl
          case ho => exact fun p hp => .tail _ (.tail _ (.tail _ (.tail _ (.tail _ (.tail _ (.tail _ (.tail _ (.tail _ hp))))))))
          case hk => exact fun q hq => nomatch hq
          case hr =>
            intro z hz _ h3
            simp only [List.contains_cons, List.contains_nil, Bool.or_false, Bool.or_eq_false_iff, beq_eq_false_iff_ne, ne_eq] at h3
            simp [h3, hz, kstB]
          case hp => exact oke
    · clear F9 N12
      intro d u' h tk _ okd F5 N6
      show wpG _ _ (execs _ _) _ _ _
      refine wpG_of ?_
      k_steps
      exact hR _ _ (fun a o e => F5.keep a o (kg a o (fun q => nomatch q) e))
end
end Mine
end
section
open PySem PySem.W PySem.Calls PyProof.Rows
set_option maxRecDepth 100000
set_option maxHeartbeats 8000000
namespace Mine
theorem offZ0 : True := by
  w_top off
  trivial
theorem holds : PySem.Challenge.rw_ez0261_01.Holds := by
  refine hd ?_
  k_fill
  intro w s₀ s₁ mg mb G Y fa o pm cd doc dV kV ho hd hcd hD hmg hg args vs as hpre hlay hrd hwl hlo
  have KX := kIn_of Y
  clear hcd hD ho hd
  refine Ground.open G ?_
  intro T B D TE TW
  wrow_args hpre hlay hrd hwl hlo
  rename_i ns _ _ _ _ _ _ _ l vs1 _ hL _ _ _ hI _ hcond _
  have h617 : mg (Str.ofString "law") = some (.ref 617) := mg_of KX T.g (by k_is)
  have hm2 : mg (Str.ofString "law") = some (.ref fa) := hmg
  rw [h617] at hm2
  cases hm2
  clear hmg
  have good : ∀ h' tk, (∀ a o, s₁.heap.get? a = some o → h'.get? a = some o) → GoodWG Challenge.rw_ez0261_01.row.claim (classAt s₀.heap) (ExcName.means s₀.heap) [ofPy (PyData.list (List.map PyData.int ns))] s₁ (Except.ok (Flow.ret (.bool true))) { s₁ with heap := h', toks := tk } := by
    intro h' tk k
    refine ⟨.inl ⟨.bool true, .bool true, [], rfl, ?_, ?_, ?_, ?_⟩, OldK.of_keep k, rfl, ?_⟩
    · exact fun _ => rfl
    · exact ReadsW.bool true
    · first | rfl | wrow_post
    · exact fun _ => ⟨List.nodup_nil, fun _ hm => nomatch hm⟩
    · exact AllBare.of_eq hg
  intro Γ p hΓ
  show Sem.wp _ Γ (guarded (call (Value.ref 617) [Value.ref l]) (Value.bool true)) _ _ p s₁
  rw [wp_guard]
  split
  · rename_i hgood
    have hc : codeG (model Challenge.rw_ez0261_01.row.prog w) callerA (.call (.ref 617) ⟨[.ref l], []⟩) (fun r s' => match r with | .ok (.ret v) => GoodWG Challenge.rw_ez0261_01.row.claim (classAt s₀.heap) (ExcName.means s₀.heap) [ofPy (PyData.list (List.map PyData.int ns))] s₁ (Except.ok (Flow.ret v)) s' | _ => False) s₁ := by
      have hcode := law_spec (prog := Challenge.rw_ez0261_01.row.prog) (s := s₁) (dp := callerA.depth) (fr := callerA.frames) (gd := callerA.guards) (un := callerA.units) (R := fun r s' => match r with | .ok (.ret v) => GoodWG Challenge.rw_ez0261_01.row.claim (classAt s₀.heap) (ExcName.means s₀.heap) [ofPy (PyData.list (List.map PyData.int ns))] s₁ (Except.ok (Flow.ret v)) s' | _ => False) ⟨fun _ _ e => e, KX, T⟩ hL hI (by omega) (by first | decide | decide +kernel | (show (0:Nat) + 100 < recursionLimit; decide)) (by decide) (fun h' tk k => good h' tk k)
      exact hcode
    have hcall : wpG (model Challenge.rw_ez0261_01.row.prog w) callerA (call (Value.ref 617) [Value.ref l]) (fun v s' => GoodWG Challenge.rw_ez0261_01.row.claim (classAt s₀.heap) (ExcName.means s₀.heap) [ofPy (PyData.list (List.map PyData.int ns))] s₁ (Except.ok (Flow.ret v)) s') (fun e s' => GoodWG Challenge.rw_ez0261_01.row.claim (classAt s₀.heap) (ExcName.means s₀.heap) [ofPy (PyData.list (List.map PyData.int ns))] s₁ (Except.error e) s') s₁ := by
      refine wpG_call (codeG_mono hc fun r s' h => ?_)
      match r, h with
      | .ok (.ret v), h => exact h
    unfold goodS at hgood
    rw [List.all_cons, Bool.and_eq_true] at hgood
    exact hcall Γ p hΓ hgood.1 hgood.2
  · exact good s₁.heap s₁.toks fun _ _ e => e
end Mine
theorem PySem.Challenge.cw_ez0261_01_holds : PySem.Challenge.rw_ez0261_01.Holds := by
  exact Mine.holds
end
