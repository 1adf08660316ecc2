import PyProof.Rows.All
import PyProof.StrLawsTight
import Wide.All
import OpenK.AllK
import Wide.FinOn
import Lean
import PySem.Challenge.RW_sn0043_01
set_option Elab.async false
set_option compiler.extract_closed false
section
open PySem PySem.W PyProof.Rows
namespace Mine
set_option maxRecDepth 100000
set_option maxHeartbeats 8000000
set_option compiler.extract_closed false
theorem through (_ : Hook) {r : OpenRow} (said : r.wellSaid = true) (_ : r.toRowW.promised) (h : r.wellSaid = true → r.Holds) : r.Holds := h said
set_option hygiene false in
local macro_rules | `(tactic| o_head $H:term) => `(tactic| refine through $H (by assumption) ?hw ?hc)
open_top hd for PySem.Challenge.rw_sn0043_01
noncomputable abbrev lawRow : OpenRow := PySem.Challenge.rw_sn0043_01.row
noncomputable def lawView : Program := view PySem.Challenge.pw_sn0043_01 [16]
noncomputable abbrev looseAll : List Str := [Str.ofString "_wall", Str.ofString "Whitespace", Str.ofString "bisect_right", Str.ofString "insort_left", Str.ofString "bisect_left", Str.ofString "COMPILER_FLAG_NAMES", Str.ofString "pretty_flags",
     Str.ofString "_law_text", Str.ofString "_law_exchanged", Str.ofString "_law_walk", Str.ofString "_law_becomes", Str.ofString "_law_beside"]
noncomputable abbrev lawHook : Hook := kHook hd.heap_39 [2, 3, 15, 17, 18, 20, 21, 32, 34, 35, 37, 38, 39, 41, 42, 44, 45, 46, 48, 49, 51, 52, 53, 55, 56, 58, 59, 60, 62, 63, 65, 66, 67, 69, 70, 72, 73, 74, 76, 77, 79, 80, 81, 82, 83, 84, 85, 88, 89, 90, 92, 93, 95, 96, 97, 98, 99, 101, 102, 104, 105, 106, 107, 108, 110, 111, 113, 114, 115, 116, 118, 119, 121, 122, 123, 125, 126, 128, 129, 130, 132, 133, 135, 136, 137, 140, 141, 142, 145, 146, 147, 150, 151, 152, 155, 156] (fun _ => by kernel_rfl)
noncomputable abbrev lawSeen : Shared → Bool := fun s => xlAt lawView [] s && recOk (RowW.records lawRow.toRowW) s
theorem left0 (w : World) : (openEnds treeTable lawRow.prog (w.withFollow "special-get-raises" false) 2166).map (fun s => (openSeen lawView looseAll (importedModules lawRow.prog.main.body) lawSeen true s, lawHook.obs s)) =
    some (openGood lawView looseAll, lawHook.val (w.withFollow "special-get-raises" false)) := by
  unfold openEnds fencedOpening topFrom
  rw [PySem.W.Fast.te14364793385576792824, PySem.W.Fast.te14082659384304107361, PySem.W.Fast.te10274390034422433532, PySem.W.Fast.te14289696077712309145, PySem.W.Fast.te4187177175401517315]
  kernel_rfl
theorem left1 (w : World) : (openEnds treeTable lawRow.prog (w.withFollow "special-get-raises" true) 2166).map (fun s => (openSeen lawView looseAll (importedModules lawRow.prog.main.body) lawSeen true s, lawHook.obs s)) =
    some (openGood lawView looseAll, lawHook.val (w.withFollow "special-get-raises" true)) := by
  unfold openEnds fencedOpening topFrom
  rw [PySem.W.Fast.te14364793385576792824, PySem.W.Fast.te14082659384304107361, PySem.W.Fast.te10274390034422433532, PySem.W.Fast.te14289696077712309145, PySem.W.Fast.te4187177175401517315]
  kernel_rfl
theorem left : LeftO lawRow.prog lawView looseAll lawSeen lawHook.obs lawHook.val 2166 := byRow2 "special-get-raises" left0 left1
end Mine
end

section
open PySem PySem.W PyProof.Rows PySem.Calls
set_option maxRecDepth 100000
namespace Mine

noncomputable abbrev PG : Program := PySem.Challenge.rw_sn0043_01.row.prog
noncomputable abbrev ar (dp un : Nat) (fr : Option (List Env)) (gd : Option (List Code)) : Around := { handled := none, depth := dp, frames := fr, guards := gd, units := un }

theorem enterF {prog : Program} {w : World} {A : Around} {s : Shared} {K : Frag} {p : Program} {loose : List Str} {mg mb : Str → Option Value}
    {Q E : Value → Shared → Prop} {name qual : Str} {params : Arguments} {body : List Stmt} {scope : Scope} {dV kV doc pm cdv ct oc : Value} {an od : Option Addr} {osl : Array (Option Value)} {f : Addr} {pos : List Value} {kw : List (Str × Value)} {binds : List (Str × Value)}
    (X : K.In s.heap) (T : TopRead p loose mg mb s.heap) (hroom : A.depth < recursionLimit)
    (ho : K.lookup f = some ⟨oc, od, .func (fnOf name qual params body scope dV kV doc pm an cdv ct), osl⟩) (hcd : codeIn K cdv qual = true)
    (hbind : BindsTo s (fnOf name qual params body scope dV kV doc pm an cdv ct) ⟨pos, kw⟩ binds) (hloc : ∀ y ∈ binds, scope.names.lookup y.1 = some .local)
    (h : ∀ h₁ tk₁, Fr s.heap s.heap.objs.size h₁ (fun y => binds.reverse.lookup y) → News s.heap s.heap.objs.size h₁ [] →
      wpAny (model prog w) (A.deeper (envOf qual scope s.heap.objs.size f cdv)) (execs body (envOf qual scope s.heap.objs.size f cdv))
        (fun fl s' => Q (match fl with | .ret v => v | _ => .none) s') (fun _ _ => False) { s with heap := h₁, toks := tk₁ })
    (hco : scope.isCoroutine = false) (hgen : scope.isGenerator = false) (hk : scope.kind = .function)
    (hcell : ∀ x ∈ scope.names, x.2 ≠ .cell) :
    wpAny (model prog w) A (call (.ref f) pos kw) Q E s := by
  refine wpAny_call ?_
  refine codeAny_call_def (fd := fnOf name qual params body scope dV kV doc pm an cdv ct) (body := body) (binds := binds) hroom (X _ _ ho) rfl T.nolimit (codeRec_of X hcd) rfl hbind hcell hloc (fun h₁ hns hk₁ => ?_) hco hgen hk
  refine wpAny_mono (h h₁ _ ⟨hns, hk₁, Nat.le_refl _⟩ News.nil) (fun fl s' h' => ?_) (fun _ _ h' => h'.elim)
  cases fl <;> exact h'

theorem frStays {h₀ h h' : Heap} {L : Addr} {m : Str → Option Value} (F : Fr h₀ L h m) (k : h.StaysIn h') : Fr h₀ L h' m :=
  ⟨F.ns.keeps k, fun b o e => k b o (F.keep b o e), F.above⟩
theorem newsStays {h₀ h h' : Heap} {L : Addr} {news : List (Addr × Obj)} (N : News h₀ L h news) (k : h.StaysIn h') : News h₀ L h' news :=
  fun p hp => ⟨k _ _ (N p hp).1, (N p hp).2⟩
theorem newsMore {h₀ h h' : Heap} {L r : Addr} {o : Obj} {m : Str → Option Value} {news : List (Addr × Obj)} (F : Fr h₀ L h m) (N : News h₀ L h' news) (hr : h.get? r = none) (ho : h'.get? r = some o) : News h₀ L h' ((r, o) :: news) := by
  obtain ⟨oL, _, _, hL, _⟩ := F.ns
  intro p hp
  rcases List.mem_cons.mp hp with rfl | hp
  · refine ⟨ho, fun e => ?_, ?_⟩
    · have e' : r = L := e
      rw [e', hL] at hr; cases hr
    · cases hq : h₀.get? r with
      | none => rfl
      | some o' => rw [F.keep _ _ hq] at hr; cases hr
  · exact N p hp
noncomputable def AllNe (d : Nat) : List (Addr × Obj) → Prop
  | [] => True
  | p :: r => @Ne Nat p.1 d ∧ AllNe d r
theorem newsNe {h₀ h : Heap} {L r : Addr} (hr : h.get? r = none) : ∀ {news : List (Addr × Obj)}, News h₀ L h news → AllNe r news
  | [], _ => trivial
  | p :: _, N => ⟨(fun e => by have := (N p (.head _)).1; rw [show p.1 = r from e, hr] at this; cases this), newsNe hr fun q hq => N q (.tail _ hq)⟩
theorem stays_trans {a b c : Heap} (h : a.StaysIn b) (k : b.StaysIn c) : a.StaysIn c := fun x o e => k x o (h x o e)
theorem newsFresh {h₀ h : Heap} {L r : Addr} {o : Obj} {news : List (Addr × Obj)} (N : News h₀ L h news) (hm : (r, o) ∈ news) : h.get? r = some o := (N _ hm).1
theorem allCons {α : Type} {P : α → Prop} {a : α} {l : List α} (h : P a) (t : ∀ p ∈ l, P p) : ∀ p ∈ a :: l, P p := List.forall_mem_cons.mpr ⟨h, t⟩
theorem allNil {α : Type} {P : α → Prop} : ∀ p ∈ ([] : List α), P p := List.forall_mem_nil _
theorem room0 {d a L : Nat} (h : d + a < L) : d < L := Nat.lt_of_le_of_lt (Nat.le_add_right d a) h
theorem room1 {d a b L : Nat} (h : d + a < L) (k : Nat.ble b a = true) : d + b < L := Nat.lt_of_le_of_lt (Nat.add_le_add_left (Nat.le_of_ble_eq_true k) d) h
theorem room2 {d a b c L : Nat} (h : d + a < L) (k : Nat.ble (b + c) a = true) : d + b + c < L := Nat.add_assoc d b c ▸ room1 h k
theorem room3 {d a b c e L : Nat} (h : d + a < L) (k : Nat.ble (b + c + e) a = true) : d + b + c + e < L := by
  have := room1 h k
  omega
theorem zOf {z : Int} {j n : Nat} (hz : z = 0 + (j : Int)) (h : j < n) : 0 ≤ z ∧ z < (n : Int) ∧ z.toNat = j := by omega
end Mine
end

section
open PySem PySem.W PyProof.Rows PySem.Calls
set_option maxRecDepth 100000
namespace Mine

/-- a frame's map: the named ones first, then anything -/
@[reducible] noncomputable def ov : List (Str × Value) → (Str → Option Value) → Str → Option Value
  | [], u => u
  | p :: r, u => fun y => if y = p.1 then some p.2 else ov r u y
theorem ov_of {m : Str → Option Value} : ∀ {l : List (Str × Value)}, (∀ p ∈ l, m p.1 = some p.2) → ov l m = m
  | [], _ => rfl
  | p :: r, h => by
    funext y
    show (if y = p.1 then some p.2 else ov r m y) = m y
    by_cases e : y = p.1
    · subst e; rw [if_pos rfl]; exact (h p (.head _)).symm
    · rw [if_neg e, ov_of fun q hq => h q (.tail _ hq)]

noncomputable def StepF {σ : Type} (h₀ : Heap) (L : Addr) (l : σ → List (Str × Value)) (nn : σ → List (Addr × Obj)) (P PB : σ → Prop) (own : List (Addr × Obj)) (s : Shared) (Qr : Value → Shared → Prop) (f : Flow) (s₃ : Shared) : Prop :=
  match f with
  | .ret v => Qr v s₃
  | .brk => ∃ h' tk m' y, s₃ = { s with heap := h', toks := tk } ∧ Fr h₀ L h' m' ∧ (∀ p ∈ l y, m' p.1 = some p.2) ∧ News h₀ L h' (nn y) ∧ PB y
  | _ => ∃ h' tk m' y, s₃ = { s with heap := h', toks := tk } ∧ Fr h₀ L h' m' ∧ (∀ p ∈ l y, m' p.1 = some p.2) ∧ News h₀ L h' (nn y ++ own) ∧ OwnOff own ((nn y).map (·.1)) ∧ P y
section
variable {σ : Type} {h₀ h' : Heap} {L : Addr} {l : σ → List (Str × Value)} {nn : σ → List (Addr × Obj)} {P PB : σ → Prop} {own : List (Addr × Obj)} {s : Shared} {Qr : Value → Shared → Prop} {m' : Str → Option Value} {tk : Nat}
theorem StepF.next (y : σ) (F : Fr h₀ L h' m') (hm : ∀ p ∈ l y, m' p.1 = some p.2) (N : News h₀ L h' (nn y ++ own)) (ho : OwnOff own ((nn y).map (·.1))) (hP : P y) : StepF h₀ L l nn P PB own s Qr .next { s with heap := h', toks := tk } := ⟨h', tk, m', y, rfl, F, hm, N, ho, hP⟩
theorem StepF.brk (y : σ) (F : Fr h₀ L h' m') (hm : ∀ p ∈ l y, m' p.1 = some p.2) (N : News h₀ L h' (nn y)) (hP : PB y) : StepF h₀ L l nn P PB own s Qr .brk { s with heap := h', toks := tk } := ⟨h', tk, m', y, rfl, F, hm, N, hP⟩
end

section
variable {prog : Program} {w : World} {A : Around} {s : Shared} {env : Env} {h₀ : Heap}
noncomputable abbrev NoE : Value → Shared → Prop := fun _ _ => False

noncomputable def ForAt (prog : Program) (w : World) (A : Around) (env : Env) (x : Str) (px : Pos) (body orelse : List Stmt) (Q : Flow → Shared → Prop) (it : Value) (s : Shared) : Prop :=
  codeAny (model prog w) A (.forLoop (.Name x px) it body orelse env) (fun r s' => match r with | .ok f => Q f s' | .error _ => False) s

/-- the end of a turn under a short name: the steps' terms stay small -/
theorem turnQ {α : Type} {M : Model} {A : Around} {x : Sem α} {Q : α → Shared → Prop} {E : Value → Shared → Prop} {s : Shared} (h : ∀ Q0 : α → Shared → Prop, (∀ f s', Q f s' → Q0 f s') → wpAny M A x Q0 E s) : wpAny M A x Q E s := h Q fun _ _ y => y
theorem For_ov {Q : Flow → Shared → Prop} {x : Str} {px pos : Pos} {iter : PySem.Expr} {body orelse : List Stmt}
    (h : wpAny (model prog w) A (eval iter env) (fun xv s₁ => wpAny (model prog w) A (pyIter xv) (fun it s₂ => ForAt prog w A env x px body orelse Q it s₂) NoE s₁) NoE s)
    (hs : ∀ x, foldedSetIterable iter env x = pure x := by intro _; rfl) :
    wpAny (model prog w) A (exec (.For (.Name x px) iter body orelse pos) env) Q NoE s := by
  refine wpAny_For (wpAny_mono h (fun xv s₁ h₁ => wpAny_mono h₁ (fun it s₂ h₂ => ?_) fun _ _ e => e) fun _ _ e => e) hs
  refine codeAny_mono h₂ (fun r s' h' => ?_)
  cases r with
  | ok f => exact h'
  | error e => exact h'.elim

theorem forAt_ov {σ : Type} {Q : Flow → Shared → Prop} {x : Str} {px : Pos} {body orelse : List Stmt} {I : Addr} {fp wr : List Addr} {n : Nat} {PV : Nat → Value → Prop} {St : Nat → Heap → Prop} {m : Str → Option Value}
    (W : Walks prog w A I fp wr n PV St) (hlive : ∀ i h, St i h → ∀ b ∈ fp, ∃ o, h.get? b = some o)
    (hx : env.kindOf x = some .local) (hp : (env.scope.kind == .class || (env.scope.kind == .module && env.locals != env.globals)) = false)
    (hLf : env.locals ∉ fp) (hwr : ∀ b ∈ wr, h₀.get? b = none)
    (l : σ → List (Str × Value)) (nn : σ → List (Addr × Obj)) (P : Nat → σ → Prop) (PB : σ → Prop) (y₀ : σ)
    (hst : St 0 s.heap) (F : Fr h₀ env.locals s.heap m) (hm : ∀ p ∈ l y₀, m p.1 = some p.2) (N : News h₀ env.locals s.heap (nn y₀)) (hoff : ∀ p ∈ nn y₀, p.1 ∉ fp) (hP : P 0 y₀)
    (turn : ∀ i v y u h₁ tk₁ own, i < n → PV i v → P i y → OwnOff own ((nn y).map (·.1)) → Fr h₀ env.locals h₁ (fun z => if z = x then some v else ov (l y) u z) → News h₀ env.locals h₁ (nn y ++ own) →
      wpAny (model prog w) A (execs body env) (StepF h₀ env.locals l nn (P (i + 1)) PB own { s with heap := h₁, toks := tk₁ } (fun v s' => Q (.ret v) s')) NoE { s with heap := h₁, toks := tk₁ })
    (done : ∀ y u h₁ tk₁, P n y → Fr h₀ env.locals h₁ (ov (l y) u) → News h₀ env.locals h₁ (nn y) → wpAny (model prog w) A (execs orelse env) Q NoE { s with heap := h₁, toks := tk₁ })
    (brk : ∀ y u h₁ tk₁, PB y → Fr h₀ env.locals h₁ (ov (l y) u) → News h₀ env.locals h₁ (nn y) → Q .next { s with heap := h₁, toks := tk₁ }) :
    ForAt prog w A env x px body orelse Q (.ref I) s := by
  have hLw : env.locals ∉ wr := fun h => hLf (W.sub _ h)
  have old : ∀ b o, h₀.get? b = some o → b ∉ wr := fun b o e hb => by rw [hwr b hb] at e; cases e
  unfold ForAt
  refine codeAny_forLoop
    (fun k s' => ∃ h' tk m' y i, s' = { s with heap := h', toks := tk } ∧ St i h' ∧ Fr h₀ env.locals h' m' ∧ (∀ p ∈ l y, m' p.1 = some p.2) ∧ News h₀ env.locals h' (nn y) ∧ (∀ p ∈ nn y, p.1 ∉ fp) ∧ P i y ∧ i ≤ n ∧ k = n + 1 - i) ?_ (n + 1)
    ⟨s.heap, s.toks, m, y₀, 0, rfl, hst, F, hm, N, hoff, hP, Nat.zero_le _, rfl⟩
  rintro k s' ⟨h', tk, m', y, i, rfl, hst', F', hm', N', hoff', hPy, hi, rfl⟩
  have next : ∀ h₁ : Heap, (∀ b o, b ∉ wr → h'.get? b = some o → h₁.get? b = some o) → Fr h₀ env.locals h₁ m' ∧ News h₀ env.locals h₁ (nn y) := fun h₁ hk₁ =>
    ⟨⟨F'.ns.at' fun o e => hk₁ _ o hLw e, fun b o e => hk₁ b o (old b o e) (F'.keep b o e), F'.above⟩, fun p hp => ⟨hk₁ _ _ (fun hw => hoff' p hp (W.sub _ hw)) (N' p hp).1, (N' p hp).2⟩⟩
  by_cases hlt : i < n
  · refine wpAny_mono (W.item i _ _ (fun _ _ => False) hlt hst' fun v h₁ tk₁ hPv hst₁ hk₁ => ?_) (fun _ _ z => z) fun _ _ e => e.elim
    obtain ⟨F₁, N₁⟩ := next h₁ hk₁
    refine wpAny_assign_Name (wpAny_storeName_local hx F₁.ns (fun h₂ hn₂ hs₂ => ?_) hp)
    have F₂ := F₁.set hn₂ hs₂
    have Nown : News h₀ env.locals h₂ (ownOf h₀ fp h₂) := news_ownOf hLf
    have hst₂ : St (i + 1) h₂ := W.frame _ _ _ hst₁ fun b hb o e => (hs₂.2 b fun q => hLf (q ▸ hb)).trans e
    have e₁ := ov_of hm'
    have F₃ : Fr h₀ env.locals h₂ (fun z => if z = x then some v else ov (l y) m' z) := by rw [e₁]; exact F₂
    have hown : OwnOff (ownOf h₀ fp h₂) ((nn y).map (·.1)) := fun p hp b hb e => by
      obtain ⟨q, hq, rfl⟩ := List.mem_map.mp hb
      exact hoff' q hq (e ▸ ownOf_sub p hp)
    refine wpAny_mono (turn i v y m' h₂ _ (ownOf h₀ fp h₂) hlt hPv hPy hown F₃ ((N₁.set hs₂).append Nown)) (fun f s₃ h₃ => ?_) fun _ _ e => e.elim
    have fin : (∃ h' tk m' y, s₃ = { s with heap := h', toks := tk } ∧ Fr h₀ env.locals h' m' ∧ (∀ p ∈ l y, m' p.1 = some p.2) ∧ News h₀ env.locals h' (nn y ++ ownOf h₀ fp h₂) ∧ OwnOff (ownOf h₀ fp h₂) ((nn y).map (·.1)) ∧ P (i + 1) y) →
        ∃ m, m < n + 1 - i ∧ ∃ h' tk m' y j, s₃ = { s with heap := h', toks := tk } ∧ St j h' ∧ Fr h₀ env.locals h' m' ∧ (∀ p ∈ l y, m' p.1 = some p.2) ∧ News h₀ env.locals h' (nn y) ∧ (∀ p ∈ nn y, p.1 ∉ fp) ∧ P j y ∧ j ≤ n ∧ m = n + 1 - j := by
      rintro ⟨h₄, tk₄, m₄, y₄, rfl, F₄, hm₄, N₄, ho₄, hP₄⟩
      refine ⟨n + 1 - (i + 1), by omega, h₄, tk₄, m₄, y₄, i + 1, rfl, ?_, F₄, hm₄, fun p hp => N₄ p (List.mem_append_left _ hp), ?_, hP₄, hlt, rfl⟩
      · refine W.frame _ _ _ hst₂ fun b hb o e₂ => ?_
        cases hn : h₀.get? b with
        | some o₀ =>
          have : o₀ = o := by have := F₂.keep b o₀ hn; rw [e₂] at this; exact (Option.some.inj this).symm
          exact this ▸ F₄.keep b o₀ hn
        | none => exact (N₄ _ (List.mem_append_right _ (mem_ownOf hb hn e₂))).1
      · intro p hp hb
        obtain ⟨o, ho⟩ := hlive _ _ hst₂ _ hb
        exact ho₄ (p.1, o) (mem_ownOf hb (N₄ p (List.mem_append_left _ hp)).2.2 ho) p.1 (List.mem_map.mpr ⟨p, hp, rfl⟩) rfl
    cases f with
    | ret v => exact h₃
    | brk =>
      obtain ⟨h₄, tk₄, m₄, y₄, rfl, F₄, hm₄, N₄, hP₄⟩ := h₃
      exact brk y₄ m₄ h₄ tk₄ hP₄ (by rw [ov_of hm₄]; exact F₄) N₄
    | cont => exact fin h₃
    | next => exact fin h₃
  · have hin : i = n := by omega
    subst hin
    refine wpAny_mono (W.done _ _ (fun _ _ => False) hst' fun h₁ tk₁ hk₁ => ?_) (fun _ _ z => z) fun _ _ e => e.elim
    obtain ⟨F₁, N₁⟩ := next h₁ hk₁
    exact wpAny_mono (done y m' h₁ tk₁ hPy (by rw [ov_of hm']; exact F₁) N₁) (fun _ _ z => z) fun _ _ e => e.elim

end
end Mine
end

section
open PySem PySem.W PyProof.Rows PySem.Calls
set_option maxRecDepth 100000
namespace Mine
/-- where the walk shall stand -/
structure Hold (P : Prop) : Prop where
  out : P

section
variable {prog : Program} {w : World} {A : Around} {s : Shared} {env : Env} {h₀ : Heap} {σ : Type} {Q : Flow → Shared → Prop} {x : Str} {px : Pos} {body orelse : List Stmt} {m : Str → Option Value}

theorem notMem1 {a b : Addr} (h : a ≠ b) : a ∉ [b] := fun e => h (List.mem_singleton.mp e)
theorem freshNone {h : Heap} {a : Addr} (ha : h.objs.size ≤ a) : h.get? a = none := by
  cases e : h.get? a with
  | none => rfl
  | some o' => exact absurd (Heap.lt_size e) (Nat.not_lt.mpr ha)
theorem freshBase {h₀ h : Heap} {L a : Addr} {m : Str → Option Value} (F : Fr h₀ L h m) (ha : h.objs.size ≤ a) : h₀.get? a = none := by
  cases e : h₀.get? a with
  | none => rfl
  | some o' => exact absurd (Heap.lt_size (F.keep _ _ e)) (Nat.not_lt.mpr ha)

theorem iter_list {lst : Addr} {vs : List Value}
    (hh : A.handled = none) (hl : s.heap.IsList lst vs.toArray) (hne : lst ≠ env.locals)
    (hx : env.kindOf x = some .local) (hp : (env.scope.kind == .class || (env.scope.kind == .module && env.locals != env.globals)) = false)
    (l : σ → List (Str × Value)) (nn : σ → List (Addr × Obj)) (P : Nat → σ → Prop) (PB : σ → Prop) (y₀ : σ)
    (F : Fr h₀ env.locals s.heap m) (hm : ∀ p ∈ l y₀, m p.1 = some p.2) (N : News h₀ env.locals s.heap (nn y₀)) (hoff : ∀ p ∈ nn y₀, p.1 ≠ lst) (hP : P 0 y₀)
    (turn : ∀ i v y u h₁ tk₁ own, vs[i]? = some v → P i y → OwnOff own ((nn y).map (·.1)) → Fr h₀ env.locals h₁ (fun z => if z = x then some v else ov (l y) u z) → News h₀ env.locals h₁ (nn y ++ own) →
      wpAny (model prog w) A (execs body env) (StepF h₀ env.locals l nn (P (i + 1)) PB own { s with heap := h₁, toks := tk₁ } (fun v s' => Q (.ret v) s')) NoE { s with heap := h₁, toks := tk₁ })
    (done : ∀ y u h₁ tk₁, P vs.length y → Fr h₀ env.locals h₁ (ov (l y) u) → News h₀ env.locals h₁ (nn y) → wpAny (model prog w) A (execs orelse env) Q NoE { s with heap := h₁, toks := tk₁ })
    (brk : ∀ y u h₁ tk₁, PB y → Fr h₀ env.locals h₁ (ov (l y) u) → News h₀ env.locals h₁ (nn y) → Q .next { s with heap := h₁, toks := tk₁ }) :
    wpAny (model prog w) A (pyIter (.ref lst)) (fun it s₂ => ForAt prog w A env x px body orelse Q it s₂) NoE s := by
  refine wpAny_pyIter_list hl ?_
  obtain ⟨ol, hol, _⟩ := id hl
  have hlt : lst < s.heap.objs.size := Heap.lt_size hol
  have hne' : lst ≠ s.heap.objs.size := Nat.ne_of_lt hlt
  have W := Walks.list (prog := prog) (w := w) hh s.heap.objs.size lst hne' vs.toArray
  refine forAt_ov W (fun i h st b hb => ?_) hx hp ?_ ?_ l nn P PB y₀ ⟨⟨_, Heap.get?_push_size _ rfl, rfl, rfl⟩, hl.at fun o e => Heap.get?_push_of_some _ e⟩ (F.push _) hm
    (fun p hp => ⟨Heap.get?_push_of_some _ (N p hp).1, (N p hp).2⟩) ?_ hP ?_ ?_ ?_
  · rcases List.mem_cons.mp hb with rfl | hb
    · exact let ⟨o, ho, _⟩ := st.1; ⟨o, ho⟩
    · rw [List.mem_singleton.mp hb]; exact let ⟨o, ho, _⟩ := st.2; ⟨o, ho⟩
  · intro hb
    rcases List.mem_cons.mp hb with e | hb
    · exact Nat.ne_of_lt F.ns.lt e
    · exact hne (List.mem_singleton.mp hb).symm
  · intro b hb
    rw [List.mem_singleton.mp hb]; exact freshBase F (Nat.le_refl _)
  · intro p hp hb
    rcases List.mem_cons.mp hb with e | hb
    · exact Nat.ne_of_lt (Heap.lt_size (N p hp).1) e
    · exact hoff p hp (List.mem_singleton.mp hb)
  · intro i v y u h₁ tk₁ own hi hv hPy ho F₁ N₁
    exact turn i v y u h₁ tk₁ own (by simpa using hv) hPy ho F₁ N₁
  · intro y u h₁ tk₁ hPy F₁ N₁
    exact done y u h₁ tk₁ (by simpa using hPy) F₁ N₁
  · intro y u h₁ tk₁ hPy F₁ N₁
    exact brk y u h₁ tk₁ hPy F₁ N₁

theorem iter_range {r : Addr} {a b : Int} {t₁ t₂ t₃ : Tok}
    (hh : A.handled = none) (hr : IsRange s.heap r a b 1 t₁ t₂ t₃) (hb : -(2 ^ 62) ≤ a ∧ a < 2 ^ 62 ∧ -(2 ^ 62) ≤ b ∧ b < 2 ^ 62)
    (hx : env.kindOf x = some .local) (hp : (env.scope.kind == .class || (env.scope.kind == .module && env.locals != env.globals)) = false)
    (l : σ → List (Str × Value)) (nn : σ → List (Addr × Obj)) (P : Nat → σ → Prop) (PB : σ → Prop) (y₀ : σ)
    (F : Fr h₀ env.locals s.heap m) (hm : ∀ p ∈ l y₀, m p.1 = some p.2) (N : News h₀ env.locals s.heap (nn y₀)) (hP : P 0 y₀)
    (turn : ∀ (i : Nat) t y u h₁ tk₁ own, (i : Int) < b - a → P i y → OwnOff own ((nn y).map (·.1)) → Fr h₀ env.locals h₁ (fun z => if z = x then some (.int (a + (i : Int)) t) else ov (l y) u z) → News h₀ env.locals h₁ (nn y ++ own) →
      wpAny (model prog w) A (execs body env) (StepF h₀ env.locals l nn (P (i + 1)) PB own { s with heap := h₁, toks := tk₁ } (fun v s' => Q (.ret v) s')) NoE { s with heap := h₁, toks := tk₁ })
    (done : ∀ y u h₁ tk₁, P (b - a).toNat y → Fr h₀ env.locals h₁ (ov (l y) u) → News h₀ env.locals h₁ (nn y) → wpAny (model prog w) A (execs orelse env) Q NoE { s with heap := h₁, toks := tk₁ })
    (brk : ∀ y u h₁ tk₁, PB y → Fr h₀ env.locals h₁ (ov (l y) u) → News h₀ env.locals h₁ (nn y) → Q .next { s with heap := h₁, toks := tk₁ }) :
    wpAny (model prog w) A (pyIter (.ref r)) (fun it s₂ => ForAt prog w A env x px body orelse Q it s₂) NoE s := by
  refine wpAny_pyIter_range hr (small_one hb.1 hb.2.1 hb.2.2.1 hb.2.2.2) ?_
  have hsz : Builtin.Range.rangeSize a b 1 = ((b - a).toNat : Int) := by rw [rangeSize_one]; split <;> omega
  have W := Walks.range (prog := prog) (w := w) hh s.heap.objs.size a 1 (b - a).toNat
  refine forAt_ov W (fun i h st b hb => ?_) hx hp ?_ ?_ l nn P PB y₀ ?_ (F.push _) hm
    (fun p hp => ⟨Heap.get?_push_of_some _ (N p hp).1, (N p hp).2⟩) ?_ hP ?_ ?_ ?_
  · rw [List.mem_singleton.mp hb]; exact ⟨_, st⟩
  · exact notMem1 (Nat.ne_of_lt F.ns.lt)
  · intro b hb
    rw [List.mem_singleton.mp hb]; exact freshBase F (Nat.le_refl _)
  · show IsRangeIter _ _ _ _ _
    have e1 : (a + ((0 : Nat) : Int) * 1) = a := by simp
    have e2 : (((b - a).toNat : Int) - ((0 : Nat) : Int)) = Builtin.Range.rangeSize a b 1 := by rw [hsz]; simp
    rw [e1, e2]
    exact Heap.get?_push_size _ rfl
  · intro p hp
    exact notMem1 (Nat.ne_of_lt (Heap.lt_size (N p hp).1))
  · rintro i v y u h₁ tk₁ own hi ⟨t, rfl⟩ hPy ho F₁ N₁
    exact turn i t y u h₁ tk₁ own (by omega) hPy ho (by simpa using F₁) N₁
  · intro y u h₁ tk₁ hPy F₁ N₁
    exact done y u h₁ tk₁ hPy F₁ N₁
  · intro y u h₁ tk₁ hPy F₁ N₁
    exact brk y u h₁ tk₁ hPy F₁ N₁

theorem iter_str {X : Str} {t₁ : Tok}
    (hh : A.handled = none)
    (hx : env.kindOf x = some .local) (hp : (env.scope.kind == .class || (env.scope.kind == .module && env.locals != env.globals)) = false)
    (l : σ → List (Str × Value)) (nn : σ → List (Addr × Obj)) (P : Nat → σ → Prop) (PB : σ → Prop) (y₀ : σ)
    (F : Fr h₀ env.locals s.heap m) (hm : ∀ p ∈ l y₀, m p.1 = some p.2) (N : News h₀ env.locals s.heap (nn y₀)) (hP : P 0 y₀)
    (turn : ∀ i c t y u h₁ tk₁ own, X.cps[i]? = some c → P i y → OwnOff own ((nn y).map (·.1)) → Fr h₀ env.locals h₁ (fun z => if z = x then some (.str ⟨#[c]⟩ t) else ov (l y) u z) → News h₀ env.locals h₁ (nn y ++ own) →
      wpAny (model prog w) A (execs body env) (StepF h₀ env.locals l nn (P (i + 1)) PB own { s with heap := h₁, toks := tk₁ } (fun v s' => Q (.ret v) s')) NoE { s with heap := h₁, toks := tk₁ })
    (done : ∀ y u h₁ tk₁, P X.cps.size y → Fr h₀ env.locals h₁ (ov (l y) u) → News h₀ env.locals h₁ (nn y) → wpAny (model prog w) A (execs orelse env) Q NoE { s with heap := h₁, toks := tk₁ })
    (brk : ∀ y u h₁ tk₁, PB y → Fr h₀ env.locals h₁ (ov (l y) u) → News h₀ env.locals h₁ (nn y) → Q .next { s with heap := h₁, toks := tk₁ }) :
    wpAny (model prog w) A (pyIter (.str X t₁)) (fun it s₂ => ForAt prog w A env x px body orelse Q it s₂) NoE s := by
  have key : ∀ (o : Obj) (ty : String) (_ : Walks prog w A s.heap.objs.size [s.heap.objs.size] [s.heap.objs.size] X.cps.size (SignAt X) (fun i h => h.IsStrIter s.heap.objs.size ty X t₁ i)),
      (s.heap.push o).IsStrIter s.heap.objs.size ty X t₁ 0 → ForAt prog w A env x px body orelse Q (.ref s.heap.objs.size) { s with heap := s.heap.push o } := by
    intro o ty W hst
    refine forAt_ov W (fun i h st b hb => ?_) hx hp ?_ ?_ l nn P PB y₀ hst (F.push _) hm
      (fun p hp => ⟨Heap.get?_push_of_some _ (N p hp).1, (N p hp).2⟩) ?_ hP ?_ ?_ ?_
    · rw [List.mem_singleton.mp hb]; exact let ⟨o, ho, _⟩ := st; ⟨o, ho⟩
    · exact notMem1 (Nat.ne_of_lt F.ns.lt)
    · intro b hb
      rw [List.mem_singleton.mp hb]; exact freshBase F (Nat.le_refl _)
    · intro p hp
      exact notMem1 (Nat.ne_of_lt (Heap.lt_size (N p hp).1))
    · rintro i v y u h₁ tk₁ own hi ⟨c, t, hc, rfl⟩ hPy ho F₁ N₁
      exact turn i c t y u h₁ tk₁ own hc hPy ho F₁ N₁
    · intro y u h₁ tk₁ hPy F₁ N₁
      exact done y u h₁ tk₁ hPy F₁ N₁
    · intro y u h₁ tk₁ hPy F₁ N₁
      exact brk y u h₁ tk₁ hPy F₁ N₁
  cases ha : X.cps.all (· < 128)
  · exact wpAny_pyIter_wide ha (key _ _ (Walks.strWide hh _ X t₁) ⟨_, Heap.get?_push_size _ rfl, rfl, rfl⟩)
  · exact wpAny_pyIter_ascii ha (key _ _ (Walks.strAscii hh _ X t₁) ⟨_, Heap.get?_push_size _ rfl, rfl, rfl⟩)

/-- the same, one end for both ways out -/
theorem iter_str1 {X : Str} {t₁ : Tok}
    (hh : A.handled = none)
    (hx : env.kindOf x = some .local) (hp : (env.scope.kind == .class || (env.scope.kind == .module && env.locals != env.globals)) = false)
    (l : σ → List (Str × Value)) (nn : σ → List (Addr × Obj)) (P : Nat → σ → Prop) (PB : σ → Prop) (y₀ : σ)
    (F : Fr h₀ env.locals s.heap m) (hm : ∀ p ∈ l y₀, m p.1 = some p.2) (N : News h₀ env.locals s.heap (nn y₀)) (hP : P 0 y₀)
    (turn : ∀ i c t y u h₁ tk₁ own, X.cps[i]? = some c → P i y → OwnOff own ((nn y).map (·.1)) → Fr h₀ env.locals h₁ (fun z => if z = x then some (.str ⟨#[c]⟩ t) else ov (l y) u z) → News h₀ env.locals h₁ (nn y ++ own) →
      wpAny (model prog w) A (execs body env) (StepF h₀ env.locals l nn (P (i + 1)) PB own { s with heap := h₁, toks := tk₁ } (fun v s' => Q (.ret v) s')) NoE { s with heap := h₁, toks := tk₁ })
    (conv : ∀ y, P X.cps.size y → PB y)
    (fin : ∀ y u h₁ tk₁, PB y → Fr h₀ env.locals h₁ (ov (l y) u) → News h₀ env.locals h₁ (nn y) → Q .next { s with heap := h₁, toks := tk₁ }) :
    wpAny (model prog w) A (pyIter (.str X t₁)) (fun it s₂ => ForAt prog w A env x px body [] Q it s₂) NoE s :=
  iter_str hh hx hp l nn P PB y₀ F hm N hP turn (fun y u h₁ tk₁ h F N => wpAny_execs_nil (fin y u h₁ tk₁ (conv y h) F N)) fin

theorem iter_range1 {r : Addr} {a b : Int} {t₁ t₂ t₃ : Tok}
    (hh : A.handled = none) (hr : IsRange s.heap r a b 1 t₁ t₂ t₃) (hb : -(2 ^ 62) ≤ a ∧ a < 2 ^ 62 ∧ -(2 ^ 62) ≤ b ∧ b < 2 ^ 62)
    (hx : env.kindOf x = some .local) (hp : (env.scope.kind == .class || (env.scope.kind == .module && env.locals != env.globals)) = false)
    (l : σ → List (Str × Value)) (nn : σ → List (Addr × Obj)) (P : Nat → σ → Prop) (PB : σ → Prop) (y₀ : σ)
    (F : Fr h₀ env.locals s.heap m) (hm : ∀ p ∈ l y₀, m p.1 = some p.2) (N : News h₀ env.locals s.heap (nn y₀)) (hP : P 0 y₀)
    (turn : ∀ (i : Nat) t y u h₁ tk₁ own, (i : Int) < b - a → P i y → OwnOff own ((nn y).map (·.1)) → Fr h₀ env.locals h₁ (fun z => if z = x then some (.int (a + (i : Int)) t) else ov (l y) u z) → News h₀ env.locals h₁ (nn y ++ own) →
      wpAny (model prog w) A (execs body env) (StepF h₀ env.locals l nn (P (i + 1)) PB own { s with heap := h₁, toks := tk₁ } (fun v s' => Q (.ret v) s')) NoE { s with heap := h₁, toks := tk₁ })
    (conv : ∀ y, P (b - a).toNat y → PB y)
    (fin : ∀ y u h₁ tk₁, PB y → Fr h₀ env.locals h₁ (ov (l y) u) → News h₀ env.locals h₁ (nn y) → Q .next { s with heap := h₁, toks := tk₁ }) :
    wpAny (model prog w) A (pyIter (.ref r)) (fun it s₂ => ForAt prog w A env x px body [] Q it s₂) NoE s :=
  iter_range hh hr hb hx hp l nn P PB y₀ F hm N hP turn (fun y u h₁ tk₁ h F N => wpAny_execs_nil (fin y u h₁ tk₁ (conv y h) F N)) fin

theorem iter_list1 {lst : Addr} {vs : List Value}
    (hh : A.handled = none) (hl : s.heap.IsList lst vs.toArray) (hne : lst ≠ env.locals)
    (hx : env.kindOf x = some .local) (hp : (env.scope.kind == .class || (env.scope.kind == .module && env.locals != env.globals)) = false)
    (l : σ → List (Str × Value)) (nn : σ → List (Addr × Obj)) (P : Nat → σ → Prop) (PB : σ → Prop) (y₀ : σ)
    (F : Fr h₀ env.locals s.heap m) (hm : ∀ p ∈ l y₀, m p.1 = some p.2) (N : News h₀ env.locals s.heap (nn y₀)) (hoff : ∀ p ∈ nn y₀, p.1 ≠ lst) (hP : P 0 y₀)
    (turn : ∀ i v y u h₁ tk₁ own, vs[i]? = some v → P i y → OwnOff own ((nn y).map (·.1)) → Fr h₀ env.locals h₁ (fun z => if z = x then some v else ov (l y) u z) → News h₀ env.locals h₁ (nn y ++ own) →
      wpAny (model prog w) A (execs body env) (StepF h₀ env.locals l nn (P (i + 1)) PB own { s with heap := h₁, toks := tk₁ } (fun v s' => Q (.ret v) s')) NoE { s with heap := h₁, toks := tk₁ })
    (conv : ∀ y, P vs.length y → PB y)
    (fin : ∀ y u h₁ tk₁, PB y → Fr h₀ env.locals h₁ (ov (l y) u) → News h₀ env.locals h₁ (nn y) → Q .next { s with heap := h₁, toks := tk₁ }) :
    wpAny (model prog w) A (pyIter (.ref lst)) (fun it s₂ => ForAt prog w A env x px body [] Q it s₂) NoE s :=
  iter_list hh hl hne hx hp l nn P PB y₀ F hm N hoff hP turn (fun y u h₁ tk₁ h F N => wpAny_execs_nil (fin y u h₁ tk₁ (conv y h) F N)) fin

noncomputable def StepW (h₀ : Heap) (L : Addr) (l : σ → List (Str × Value)) (nn : σ → List (Addr × Obj)) (P : Nat → σ → Prop) (n : Nat) (s : Shared) (Q : Flow → Shared → Prop) (f : Flow) (s₃ : Shared) : Prop :=
  match f with
  | .ret v => Q (.ret v) s₃
  | .brk => Q .next s₃
  | _ => ∃ h' tk m' y n', s₃ = { s with heap := h', toks := tk } ∧ Fr h₀ L h' m' ∧ (∀ p ∈ l y, m' p.1 = some p.2) ∧ News h₀ L h' (nn y) ∧ n' < n ∧ P n' y
theorem StepW.next {L : Addr} {l : σ → List (Str × Value)} {nn : σ → List (Addr × Obj)} {P : Nat → σ → Prop} {n n' tk : Nat} {m' : Str → Option Value} {h' : Heap} (y : σ) (F : Fr h₀ L h' m') (hm : ∀ p ∈ l y, m' p.1 = some p.2) (N : News h₀ L h' (nn y)) (hn : n' < n) (hP : P n' y) : StepW h₀ L l nn P n s Q .next { s with heap := h', toks := tk } := ⟨h', tk, m', y, n', rfl, F, hm, N, hn, hP⟩

theorem While_ov {test : PySem.Expr} {pos : Pos} {L : Addr} (n₀ : Nat) (l : σ → List (Str × Value)) (nn : σ → List (Addr × Obj)) (P : Nat → σ → Prop) (y₀ : σ)
    (F : Fr h₀ L s.heap m) (hm : ∀ p ∈ l y₀, m p.1 = some p.2) (N : News h₀ L s.heap (nn y₀)) (hP : P n₀ y₀)
    (turn : ∀ n y u h₁ tk₁, P n y → Fr h₀ L h₁ (ov (l y) u) → News h₀ L h₁ (nn y) →
      wpAny (model prog w) A (isTrue test env (eval test env)) (fun b s₂ =>
        if b = true then wpAny (model prog w) A (execs body env) (StepW h₀ L l nn P n s Q) NoE s₂ else Q .next s₂) NoE { s with heap := h₁, toks := tk₁ }) :
    wpAny (model prog w) A (exec (.While test body [] pos) env) Q NoE s := by
  refine While_inv2 (L := L) (h₀ := h₀) (m := m) (news := nn y₀) (n₀ := n₀) (fun n m₁ news₁ => ∃ y, news₁ = nn y ∧ (∀ p ∈ l y, m₁ p.1 = some p.2) ∧ P n y) F N ⟨y₀, rfl, hm, hP⟩ ?_ PassesOwn.never
  rintro n m₁ news₁ h₁ tk₁ F₁ N₁ ⟨y, rfl, hm₁, hP₁⟩
  refine wpAny_mono (turn n y m₁ h₁ tk₁ hP₁ (by rw [ov_of hm₁]; exact F₁) N₁) (fun b s₂ h₂ => ?_) fun _ _ e => e
  cases b with
  | false => simp only [Bool.false_eq_true, if_false] at h₂ ⊢; exact h₂
  | true =>
    simp only [if_true] at h₂ ⊢
    refine wpAny_mono h₂ (fun f s₃ h₃ => ?_) fun _ _ e => e
    cases f with
    | ret v => exact h₃
    | brk => exact h₃
    | next =>
      obtain ⟨h', tk, m', y', n', rfl, F', hm', N', hn, hP'⟩ := h₃
      exact ⟨h', tk, m', _, n', rfl, F', N', hn, y', rfl, hm', hP'⟩
    | cont =>
      obtain ⟨h', tk, m', y', n', rfl, F', hm', N', hn, hP'⟩ := h₃
      exact ⟨h', tk, m', _, n', rfl, F', N', hn, y', rfl, hm', hP'⟩
end
end Mine
end

section
open PySem PySem.W PyProof.Rows PySem.Calls
set_option maxRecDepth 100000
namespace Mine
/-- all but l stands -/
noncomputable def StaysBut (l : Addr) (h h' : Heap) : Prop := ∀ b o, b ≠ l → h.get? b = some o → h'.get? b = some o

theorem enterM {prog : Program} {w : World} {A : Around} {s : Shared} {h₀ : Heap} {K : Frag} {p : Program} {loose : List Str} {mg mb : Str → Option Value} {l : Addr} {o : Obj}
    {Q E : Value → Shared → Prop} {name qual : Str} {params : Arguments} {body : List Stmt} {scope : Scope} {dV kV doc pm cdv ct oc : Value} {an od : Option Addr} {osl : Array (Option Value)} {f : Addr} {pos : List Value} {kw : List (Str × Value)} {binds : List (Str × Value)}
    (X : K.In h₀) (T : TopRead p loose mg mb h₀) (k₀ : h₀.StaysIn s.heap) (hl₀ : h₀.get? l = none) (hlo : s.heap.get? l = some o) (hroom : A.depth < recursionLimit)
    (ho : K.lookup f = some ⟨oc, od, .func (fnOf name qual params body scope dV kV doc pm an cdv ct), osl⟩) (hcd : codeIn K cdv qual = true)
    (hbind : BindsTo s (fnOf name qual params body scope dV kV doc pm an cdv ct) ⟨pos, kw⟩ binds) (hloc : ∀ y ∈ binds, scope.names.lookup y.1 = some .local)
    (h : ∀ g h₁ tk₁, (∀ h', g.StaysIn h' → StaysBut l s.heap h') → h₀.StaysIn g → K.In g → TopRead p loose mg mb g → Fr g s.heap.objs.size h₁ (fun y => binds.reverse.lookup y) → News g s.heap.objs.size h₁ [(l, o)] →
      wpAny (model prog w) (A.deeper (envOf qual scope s.heap.objs.size f cdv)) (execs body (envOf qual scope s.heap.objs.size f cdv))
        (fun fl s' => Q (match fl with | .ret v => v | _ => .none) s') (fun _ _ => False) { s with heap := h₁, toks := tk₁ })
    (hco : scope.isCoroutine = false) (hgen : scope.isGenerator = false) (hk : scope.kind = .function)
    (hcell : ∀ x ∈ scope.names, x.2 ≠ .cell) :
    wpAny (model prog w) A (call (.ref f) pos kw) Q E s := by
  refine wpAny_call ?_
  have X' : K.In s.heap := X.keeps k₀
  refine codeAny_call_def (fd := fnOf name qual params body scope dV kV doc pm an cdv ct) (body := body) (binds := binds) hroom (X' _ _ ho) rfl (T.nolimit.keeps k₀) (codeRec_of X' hcd) rfl hbind hcell hloc (fun h₁ hns hk₁ => ?_) hco hgen hk
  have st : h₀.StaysIn (hideAll s.heap [l]) := fun b o e => hideAll_get _ (k₀ b o e) (fun q => by
    rw [List.mem_singleton.mp q, hl₀] at e; cases e)
  have N : News (hideAll s.heap [l]) s.heap.objs.size h₁ [(l, o)] := fun p hp => by
    rw [List.mem_singleton.mp hp]
    exact ⟨hk₁ _ _ hlo, Nat.ne_of_lt (Heap.lt_size hlo), hideAll_none _ (.head _)⟩
  refine wpAny_mono (h (hideAll s.heap [l]) h₁ _ (fun h' k b o hb e => k b o (hideAll_get _ e (notMem1 hb))) st (X.keeps st) (T.keeps st) ⟨hns, fun b o e => hk₁ b o (of_hideAll _ e), Nat.le_of_eq (hideAll_size _ _)⟩ N) (fun fl s' h' => ?_) (fun _ _ h' => h'.elim)
  cases fl <;> exact h'
end Mine
end

section
open PySem PySem.W PyProof.Rows PySem.Calls
set_option maxRecDepth 100000
namespace Mine
/-- all but the named ones stand -/
noncomputable def StaysOff (as : List Addr) (h h' : Heap) : Prop := ∀ b o, b ∉ as → h.get? b = some o → h'.get? b = some o

theorem codeN {prog : Program} {w : World} {A : Around} {s : Shared} {h₀ : Heap} {K : Frag} {p : Program} {loose : List Str} {mg mb : Str → Option Value} {hid : List (Addr × Obj)}
    {R : Result → Shared → Prop} {name qual : Str} {params : Arguments} {body : List Stmt} {scope : Scope} {dV kV doc pm cdv ct oc : Value} {an od : Option Addr} {osl : Array (Option Value)} {f : Addr} {pos : List Value} {kw : List (Str × Value)} {binds : List (Str × Value)}
    (X : K.In h₀) (T : TopRead p loose mg mb h₀) (k₀ : h₀.StaysIn s.heap) (hhid : ∀ p ∈ hid, s.heap.get? p.1 = some p.2 ∧ h₀.get? p.1 = none) (hroom : A.depth < recursionLimit)
    (ho : K.lookup f = some ⟨oc, od, .func (fnOf name qual params body scope dV kV doc pm an cdv ct), osl⟩) (hcd : codeIn K cdv qual = true)
    (hbind : BindsTo s (fnOf name qual params body scope dV kV doc pm an cdv ct) ⟨pos, kw⟩ binds) (hloc : ∀ y ∈ binds, scope.names.lookup y.1 = some .local)
    (h : ∀ g h₁ tk₁, (∀ h', g.StaysIn h' → StaysOff (hid.map (·.1)) s.heap h') → h₀.StaysIn g → K.In g → TopRead p loose mg mb g → Fr g s.heap.objs.size h₁ (fun y => binds.reverse.lookup y) → News g s.heap.objs.size h₁ hid →
      wpAny (model prog w) (A.deeper (envOf qual scope s.heap.objs.size f cdv)) (execs body (envOf qual scope s.heap.objs.size f cdv))
        (fun fl s' => R (.ok (.ret (match fl with | .ret v => v | _ => .none))) s') (fun _ _ => False) { s with heap := h₁, toks := tk₁ })
    (hco : scope.isCoroutine = false) (hgen : scope.isGenerator = false) (hk : scope.kind = .function)
    (hcell : ∀ x ∈ scope.names, x.2 ≠ .cell) :
    codeAny (model prog w) A (.call (.ref f) ⟨pos, kw⟩) R s := by
  have X' : K.In s.heap := X.keeps k₀
  refine codeAny_call_def (fd := fnOf name qual params body scope dV kV doc pm an cdv ct) (body := body) (binds := binds) hroom (X' _ _ ho) rfl (T.nolimit.keeps k₀) (codeRec_of X' hcd) rfl hbind hcell hloc (fun h₁ hns hk₁ => ?_) hco hgen hk
  have st : h₀.StaysIn (hideAll s.heap (hid.map (·.1))) := fun b o e => hideAll_get _ (k₀ b o e) (fun q => by
    obtain ⟨p, hp, rfl⟩ := List.mem_map.mp q
    rw [(hhid p hp).2] at e; cases e)
  have N : News (hideAll s.heap (hid.map (·.1))) s.heap.objs.size h₁ hid := fun p hp =>
    ⟨hk₁ _ _ (hhid p hp).1, Nat.ne_of_lt (Heap.lt_size (hhid p hp).1), hideAll_none _ (List.mem_map.mpr ⟨p, hp, rfl⟩)⟩
  refine wpAny_mono (h _ h₁ _ (fun h' k b o hb e => k b o (hideAll_get _ e hb)) st (X.keeps st) (T.keeps st) ⟨hns, fun b o e => hk₁ b o (of_hideAll _ e), Nat.le_of_eq (hideAll_size _ _)⟩ N) (fun fl s' h' => ?_) (fun _ _ h' => h'.elim)
  exact h'

theorem subO {a b own : List (Addr × Obj)} (h : ∀ p ∈ a, p ∈ b) (ho : ∀ p ∈ own, p ∈ b) : ∀ p ∈ a ++ own, p ∈ b := fun p hp => (List.mem_append.mp hp).elim (h p) (ho p)
theorem allLt_mem {d : Nat} : ∀ {l : List (Addr × Obj)}, AllLt d l → ∀ p ∈ l, @LT.lt Nat _ p.1 d := by
  intro l
  induction l with
  | nil => intro _ p hp; cases hp
  | cons q r ih =>
    intro h p hp
    rcases List.mem_cons.mp hp with rfl | hp
    · exact h.1
    · exact ih h.2 p hp
theorem ownOff_cons {own : List (Addr × Obj)} {d : Addr} {r : List Addr} (h : ∀ p ∈ own, p.1 ≠ d) (ho : OwnOff own r) : OwnOff own (d :: r) := fun p hp b hb => by
  rcases List.mem_cons.mp hb with rfl | hb
  · exact h p hp
  · exact ho p hp b hb
theorem ownOff_lt {own : List (Addr × Obj)} {d : Addr} {r : List Addr} (h : AllLt d own) (ho : OwnOff own r) : OwnOff own (d :: r) := ownOff_cons (fun p hp => Nat.ne_of_lt (allLt_mem h p hp)) ho
theorem ownOff_tail {own : List (Addr × Obj)} {d : Addr} {r : List Addr} (ho : OwnOff own (d :: r)) : OwnOff own r := fun p hp b hb => ho p hp b (.tail _ hb)
theorem allNe_mem {d : Nat} : ∀ {l : List (Addr × Obj)}, AllNe d l → ∀ p ∈ l, @Ne Nat p.1 d := by
  intro l
  induction l with
  | nil => intro _ p hp; cases hp
  | cons q r ih =>
    intro h p hp
    rcases List.mem_cons.mp hp with rfl | hp
    · exact h.1
    · exact ih h.2 p hp
theorem ownOff_ne {own : List (Addr × Obj)} {d : Addr} {r : List Addr} (h : AllNe d own) (ho : OwnOff own r) : OwnOff own (d :: r) := ownOff_cons (allNe_mem h) ho
noncomputable abbrev tupOf (its : Array Value) : Obj := { cls := .type "tuple", data := .seq its }
theorem tuple_N {prog : Program} {w : World} {A : Around} {E : Value → Shared → Prop} {s : Shared} {h₀ : Heap} {L l : Addr} {m : Str → Option Value} {news : List (Addr × Obj)} {items : Array Value} {Q : Value → Shared → Prop}
    (F : Fr h₀ L s.heap m) (N : News h₀ L s.heap news) (hl : s.heap.IsList l items) (hsz : items.size ≤ sizeLine)
    (h : ∀ D h', Fr h₀ L h' m → News h₀ L h' ((D, tupOf items) :: news) → (∀ p ∈ news, p.1 < D) → Q (.ref D) { s with heap := h' }) :
    wpAny (model prog w) A (call (.type "tuple") [.ref l]) Q E s := by
  refine call_tuple_list hl (fun h' hk => ?_) hsz
  have F' : Fr h₀ L h' m := frStays F hk
  have N' : News h₀ L h' news := newsStays N hk
  exact h _ _ (F'.push _) (N'.push F' _) fun p hp => Heap.lt_size (N' p hp).1
end Mine
end

section
open PySem PySem.W PyProof.Rows PySem.Calls
set_option maxRecDepth 100000
namespace Mine

theorem codeNC {prog : Program} {w : World} {A : Around} {s : Shared} {h₀ : Heap} {K : Frag} {p : Program} {loose : List Str} {mg mb : Str → Option Value} {hid : List (Addr × Obj)}
    {R : Result → Shared → Prop} {name qual : Str} {params : Arguments} {body : List Stmt} {scope : Scope} {dV kV doc pm cdv ct oc : Value} {an od : Option Addr} {osl : Array (Option Value)} {f : Addr} {pos : List Value} {kw : List (Str × Value)} {binds : List (Str × Value)}
    (X : K.In h₀) (T : TopRead p loose mg mb h₀) (k₀ : h₀.StaysIn s.heap) (hhid : ∀ p ∈ hid, s.heap.get? p.1 = some p.2 ∧ h₀.get? p.1 = none) (hroom : A.depth < recursionLimit)
    (ho : K.lookup f = some ⟨oc, od, .func (fnOf name qual params body scope dV kV doc pm an cdv ct), osl⟩) (hcd : codeIn K cdv qual = true)
    (hbind : BindsTo s (fnOf name qual params body scope dV kV doc pm an cdv ct) ⟨pos, kw⟩ binds)
    (hkind : (binds.all fun y => scope.names.lookup y.1 == some .local || scope.names.lookup y.1 == some .cell) = true)
    (hnd : ((cellsFrom 0 scope.names []).map (·.1)).Nodup)
    (h : ∀ g h₁ tk₁ cells, (∀ h', g.StaysIn h' → StaysOff (hid.map (·.1)) s.heap h') → h₀.StaysIn g → K.In g → TopRead p loose mg mb g → (∀ p ∈ hid, p.1 < s.heap.objs.size) →
      Fr g s.heap.objs.size h₁ (bindL (envOfC qual scope s.heap.objs.size f cdv).kindOf binds fun _ => none) → News g s.heap.objs.size h₁ (cells ++ hid) →
      CellsAre (bindC (envOfC qual scope s.heap.objs.size f cdv).kindOf binds fun _ => none) (cellsFrom (s.heap.objs.size + 1) scope.names []) cells →
      wpAny (model prog w) (A.deeper (envOfC qual scope s.heap.objs.size f cdv)) (execs body (envOfC qual scope s.heap.objs.size f cdv))
        (fun fl s' => R (.ok (.ret (match fl with | .ret v => v | _ => .none))) s') (fun _ _ => False) { s with heap := h₁, toks := tk₁ })
    (hco : scope.isCoroutine = false) (hgen : scope.isGenerator = false) (hk : scope.kind = .function) :
    codeAny (model prog w) A (.call (.ref f) ⟨pos, kw⟩) R s := by
  have X' : K.In s.heap := X.keeps k₀
  have st : h₀.StaysIn (hideAll s.heap (hid.map (·.1))) := fun b o e => hideAll_get _ (k₀ b o e) (fun q => by
    obtain ⟨p, hp, rfl⟩ := List.mem_map.mp q
    rw [(hhid p hp).2] at e; cases e)
  refine codeAny_call_function (fd := fnOf name qual params body scope dV kV doc pm an cdv ct) hroom (X' _ _ ho) rfl hco hgen rfl (codeRec_of X' hcd) (hbind _ _ _ _ ?_)
  refine wpAny_newFunctionEnv_cells hk (kindsX hkind _) fun env' he s' x => ?_
  subst he
  refine ⟨(T.nolimit.keeps k₀).keeps x.toInCall.keep, codeAny_func ?_⟩
  obtain ⟨h₁, tk, rfl, _⟩ := x.done
  have hk₁ := x.toInCall.keep
  obtain ⟨cells, NC, Y⟩ := Cl.news (h₀ := s.heap) (Nat.le_refl _) fun n c hm => ⟨x.cell n c (lookup_of_mem_nodup (cellsFrom_names scope.names 0 (s.heap.objs.size + 1) [] [] rfl ▸ hnd) hm), x.above n c hm⟩
  refine wpAny_mono (h _ h₁ tk cells (fun h' k b o hb e => k b o (hideAll_get _ e hb)) st (X.keeps st) (T.keeps st) (fun p hp => Heap.lt_size (hhid p hp).1) ⟨x.toInCall.ns, fun b o e => hk₁ b o (of_hideAll _ e), Nat.le_of_eq (hideAll_size _ _)⟩ (fun p hp => ?_) Y) (fun fl s' h' => h') (fun _ _ h' => h'.elim)
  rcases List.mem_append.mp hp with hp | hp
  · refine ⟨(NC p hp).1, (NC p hp).2.1, ?_⟩
    cases q : (hideAll s.heap (hid.map (·.1))).get? p.1 with
    | none => rfl
    | some o => have := of_hideAll _ q; rw [(NC p hp).2.2] at this; cases this
  · exact ⟨hk₁ _ _ (hhid p hp).1, Nat.ne_of_lt (Heap.lt_size (hhid p hp).1), hideAll_none _ (List.mem_map.mpr ⟨p, hp, rfl⟩)⟩
end Mine
end

section
open PySem PySem.W PyProof.Rows PySem.Calls
set_option maxRecDepth 100000
namespace Mine
section
variable {prog : Program} {w : World} {A : Around} {env : Env} {h₀ : Heap} {L : Addr} {m : Str → Option Value} {news : List (Addr × Obj)}

/-- a comprehension's test at one item -/
noncomputable def TestAt (prog : Program) (w : World) (A : Around) (h₀ : Heap) (news : List (Addr × Obj)) (env : Env) (scope : Scope) (cl : List (Str × Addr)) (x : Str) (ifs : List PySem.Expr) (v : Value) (b : Bool) : Prop :=
  match ifs with
  | [] => b = true
  | [c] => ∀ (C : Addr) (u : Str → Option Value) (s₃ : Shared), Fr h₀ C s₃.heap (fun z => if z = x then some v else u z) → News h₀ C s₃.heap news →
      wpAny (model prog w) A (isTrue c (compEnvC scope cl C env) (eval c (compEnvC scope cl C env))) (fun ok s₄ => ok = b ∧ Keeps s₃ s₄) NoE s₃
  | _ => False
noncomputable def EltAt (prog : Program) (w : World) (A : Around) (h₀ : Heap) (news : List (Addr × Obj)) (env : Env) (scope : Scope) (cl : List (Str × Addr)) (x : Str) (elt : PySem.Expr) (v : Value) (F : Value → Prop) : Prop :=
  ∀ (C : Addr) (u : Str → Option Value) (s₃ : Shared), Fr h₀ C s₃.heap (fun z => if z = x then some v else u z) → News h₀ C s₃.heap news →
    wpAny (model prog w) A (eval elt (compEnvC scope cl C env)) (fun y s₄ => F y ∧ Keeps s₃ s₄) NoE s₃

theorem keeps_refl (s : Shared) : Keeps s s := ⟨s.heap, s.toks, rfl, fun _ _ e => e⟩

theorem comp_quiet {scope : Scope} {cl : List (Str × Addr)} {x : Str} {ifs : List PySem.Expr} {elt : PySem.Expr} {wr : List Addr} {P : Nat → Value → Prop} {p : Value → Bool} {Fv : Value → Value → Prop} {s₂ : Shared}
    (F : Fr h₀ L s₂.heap m) (N : News h₀ L s₂.heap news) (hwr : ∀ b ∈ wr, h₀.get? b = none) (hoff : ∀ q ∈ news, q.1 ∉ wr)
    (htest : ∀ i v, P i v → TestAt prog w A h₀ news env scope cl x ifs v (p v))
    (helt : ∀ i v, P i v → p v = true → EltAt prog w A h₀ news env scope cl x elt v (Fv v)) :
    QuietOnC prog w A env scope cl x ifs elt wr P p Fv s₂ := by
  have up : ∀ (C : Addr) (v : Value) (s₃ : Shared) (m₃ : Str → Option Value), s₂.heap.objs.size ≤ C → s₃.heap.Ns C m₃ → m₃ x = some v → (∀ b o, b ∉ wr → s₂.heap.get? b = some o → s₃.heap.get? b = some o) →
      Fr h₀ C s₃.heap (fun z => if z = x then some v else m₃ z) ∧ News h₀ C s₃.heap news := by
    intro C v s₃ m₃ hC hn hv hk
    have e : (fun z => if z = x then some v else m₃ z) = m₃ := by
      funext z
      by_cases h : z = x
      · subst h; rw [if_pos rfl, hv]
      · rw [if_neg h]
    have hL := F.ns.lt
    have ha := F.above
    have hn' : s₃.heap.Ns C (fun z => if z = x then some v else m₃ z) := by rw [e]; exact hn
    refine ⟨⟨hn', fun b o e => hk b o (fun hb => by rw [hwr b hb] at e; cases e) (F.keep b o e), Nat.le_trans ha (Nat.le_trans (Nat.le_of_lt hL) hC)⟩, fun q hq => ⟨hk _ _ (hoff q hq) (N q hq).1, ?_, (N q hq).2.2⟩⟩
    exact Nat.ne_of_lt (Nat.lt_of_lt_of_le (Heap.lt_size (N q hq).1) hC)
  refine ⟨?_, ?_⟩
  · intro C i v s₃ m₃ E' hC hP hn hv hk htk
    obtain ⟨F₃, N₃⟩ := up C v s₃ m₃ hC hn hv hk
    have ht := htest i v hP
    match ifs, ht with
    | [], ht =>
      have ht' : p v = true := ht
      show wpAny _ _ (pure true) _ _ _
      exact wpAny_pure ⟨ht'.symm, keeps_refl _⟩
    | [c], ht =>
      have ht' := ht C m₃ s₃ F₃ N₃
      simp only [List.forIn_cons, List.forIn_nil]
      refine wpAny_bind (wpAny_bind (wpAny_mono ht' (fun ok s₄ h₄ => wpAny_pure (wpAny_pure h₄)) fun _ _ e => e.elim))
    | _ :: _ :: _, ht => exact ht.elim
  · intro C i v s₃ m₃ E' hC hP hp hn hv hk htk
    obtain ⟨F₃, N₃⟩ := up C v s₃ m₃ hC hn hv hk
    exact wpAny_mono (helt i v hP hp C m₃ s₃ F₃ N₃) (fun _ _ h => h) fun _ _ e => e.elim

noncomputable def CompE (prog : Program) (w : World) (A : Around) (env : Env) (elt : PySem.Expr) (x : Str) (ifs : List PySem.Expr) (scope : Scope) (cl : List (Str × Addr)) (p : Value → Bool) (Fv : Value → Value → Prop) (Q : Value → Shared → Prop) (it : Value) (s₂ : Shared) : Prop :=
  ∃ I fp wr n P St, it = .ref I ∧ Walks prog w A I fp wr n P St ∧ n ≤ sizeLine ∧ St 0 s₂.heap ∧ (∀ b ∈ fp, b < s₂.heap.objs.size) ∧ QuietOnC prog w A env scope cl x ifs elt wr P p Fv s₂ ∧
    (∀ D h' tk ys (vs : List Value), s₂.heap.get? D = none → h'.IsList D ys → h'.PlainList D ys → vs.length = n → (∀ j v, vs[j]? = some v → P j v) → Paired Fv (vs.filter p) ys.toList →
        (∀ b o, b ∉ wr → s₂.heap.get? b = some o → h'.get? b = some o) → Q (.ref D) { s₂ with heap := h', toks := tk })
theorem ListComp_ov {s : Shared} {elt iter : PySem.Expr} {x : Str} {px : Pos} {ifs : List PySem.Expr} {scope : Scope} {cl : List (Str × Addr)} {pos : Pos} {Q : Value → Shared → Prop} (p : Value → Bool) (Fv : Value → Value → Prop)
    (hclos : closureFor scope env = pure cl) (hcell : ∀ y ∈ scope.names, y.2 ≠ .cell) (hkind : scope.kind = .function)
    (hnames : ∀ y ∈ scope.names, y.2 = .local → scope.names.lookup y.1 = some .local) (hx : scope.names.lookup x = some .local)
    (h : wpAny (model prog w) A (eval iter env) (fun xv s₁ => wpAny (model prog w) A (pyIter xv) (fun it s₂ => CompE prog w A env elt x ifs scope cl p Fv Q it s₂) NoE s₁) NoE s)
    (hs : ∀ x, foldedSetIterable iter env x = pure x := by intro _; rfl) :
    wpAny (model prog w) A (eval (.ListComp elt [⟨.Name x px, iter, ifs, 0⟩] scope pos) env) Q NoE s :=
  wpAny_ListComp_free p Fv hclos hcell hkind hnames hx h hs

noncomputable def CompA (prog : Program) (w : World) (A : Around) (env : Env) (elt : PySem.Expr) (x y : Str) (ifs : List PySem.Expr) (scope : Scope) (cl : List (Str × Addr)) (p : Value → Bool) (Fv : Value → Value → Prop) (Q : Flow → Shared → Prop) (it : Value) (s₂ : Shared) : Prop :=
  ∃ I fp wr n P St m, it = .ref I ∧ Walks prog w A I fp wr n P St ∧ n ≤ sizeLine ∧ St 0 s₂.heap ∧ (∀ b ∈ fp, b < s₂.heap.objs.size) ∧
      env.locals ∉ wr ∧ s₂.heap.Ns env.locals m ∧ QuietOnC prog w A env scope cl x ifs elt wr P p Fv s₂ ∧
      (∀ D h' tk ys (vs : List Value), s₂.heap.get? D = none → h'.IsList D ys → h'.PlainList D ys → vs.length = n → (∀ j v, vs[j]? = some v → P j v) → Paired Fv (vs.filter p) ys.toList →
        h'.Ns env.locals (fun z => if z = y then some (.ref D) else m z) → (∀ b o, b ≠ env.locals → b ∉ wr → s₂.heap.get? b = some o → h'.get? b = some o) → Q .next { s₂ with heap := h', toks := tk })
theorem AssignComp_ov {s : Shared} {elt iter : PySem.Expr} {x y : Str} {px py : Pos} {ifs : List PySem.Expr} {scope : Scope} {cl : List (Str × Addr)} {pos spos : Pos} {Q : Flow → Shared → Prop} (p : Value → Bool) (Fv : Value → Value → Prop)
    (hsw : swapsWith (.ListComp elt [⟨.Name x px, iter, ifs, 0⟩] scope pos) (some (.Name y py)) spos.line env = pure true)
    (hclos : closureFor scope env = pure cl) (hcell : ∀ z ∈ scope.names, z.2 ≠ .cell) (hkind : scope.kind = .function)
    (hnames : ∀ z ∈ scope.names, z.2 = .local → scope.names.lookup z.1 = some .local) (hx : scope.names.lookup x = some .local)
    (hy : env.kindOf y = some .local) (hp : (env.scope.kind == .class || (env.scope.kind == .module && env.locals != env.globals)) = false)
    (h : wpAny (model prog w) A (eval iter env) (fun xv s₁ => wpAny (model prog w) A (pyIter xv) (fun it s₂ => CompA prog w A env elt x y ifs scope cl p Fv Q it s₂) NoE s₁) NoE s)
    (hs : ∀ x, foldedSetIterable iter env x = pure x := by intro _; rfl) :
    wpAny (model prog w) A (exec (.Assign [.Name y py] (.ListComp elt [⟨.Name x px, iter, ifs, 0⟩] scope pos) spos) env) Q NoE s :=
  wpAny_Assign_ListComp_free p Fv hsw hclos hcell hkind hnames hx hy hp h hs
end

section
variable {prog : Program} {w : World} {A : Around} {env : Env} {h₀ : Heap} {s : Shared} {m : Str → Option Value} {news : List (Addr × Obj)} {elt : PySem.Expr} {x y : Str} {ifs : List PySem.Expr} {scope : Scope} {cl : List (Str × Addr)} {p : Value → Bool} {Fv : Value → Value → Prop}

theorem plainGet_list {h : Heap} {D : Addr} {ys : Array Value} (x : h.PlainList D ys) : ∃ n, h.get? D = some (listOf ys.toList.toArray n) := by
  obtain ⟨n, e⟩ := x
  exact ⟨n, by rw [e]⟩

theorem walksB {prog : Program} {w : World} {A : Around} {I : Addr} {fp wr : List Addr} {n : Nat} {P : Nat → Value → Prop} {St : Nat → Heap → Prop} (W : Walks prog w A I fp wr n P St) : Walks prog w A I fp wr n (fun i v => i < n ∧ P i v) St where
  sub := W.sub
  frame := W.frame
  item := fun i s Q E hi st hQ => W.item i s Q E hi st fun v h' tk hP => hQ v h' tk ⟨hi, hP⟩
  done := W.done
  self := W.self
noncomputable def rangeZ (a : Int) (n : Nat) : List Int := (List.range n).map fun (i : Nat) => a + (i : Int)
theorem intsOf : ∀ (vs : List Value) (f : Nat → Int), (∀ (j : Nat) v, vs[j]? = some v → ∃ t, v = .int (f j) t) → IntsAre vs ((List.range vs.length).map f)
  | [], _, _ => .nil
  | v :: r, f, h => by
    obtain ⟨t, rfl⟩ := h 0 v rfl
    rw [List.length_cons, List.range_succ_eq_map, List.map_cons, List.map_map]
    exact .cons _ t (intsOf r (f ∘ Nat.succ) fun j u e => h (j + 1) u e)

theorem compE_range {L r : Addr} {a b : Int} {t₁ t₂ t₃ : Tok} {Q : Value → Shared → Prop}
    (hh : A.handled = none) (hr : IsRange s.heap r a b 1 t₁ t₂ t₃) (hb : -(2 ^ 62) ≤ a ∧ a < 2 ^ 62 ∧ -(2 ^ 62) ≤ b ∧ b < 2 ^ 62) (hsz : (b - a).toNat ≤ sizeLine)
    (F : Fr h₀ L s.heap m) (N : News h₀ L s.heap news)
    (htest : ∀ (i : Nat) t, (i : Int) < b - a → TestAt prog w A h₀ news env scope cl x ifs (.int (a + (i : Int)) t) (p (.int (a + (i : Int)) t)))
    (helt : ∀ (i : Nat) t, (i : Int) < b - a → p (.int (a + (i : Int)) t) = true → EltAt prog w A h₀ news env scope cl x elt (.int (a + (i : Int)) t) (Fv (.int (a + (i : Int)) t)))
    (hQ : ∀ D h' tk n ws vs, IntsAre vs (rangeZ a (b - a).toNat) → Paired Fv (vs.filter p) ws → s.heap.get? D = none → s.heap.StaysIn h' → h'.get? D = some (listOf ws.toArray n) → Q (.ref D) { s with heap := h', toks := tk }) :
    wpAny (model prog w) A (pyIter (.ref r)) (fun it s₂ => CompE prog w A env elt x ifs scope cl p Fv Q it s₂) NoE s := by
  refine wpAny_pyIter_range hr (small_one hb.1 hb.2.1 hb.2.2.1 hb.2.2.2) ?_
  have hrs : Builtin.Range.rangeSize a b 1 = ((b - a).toNat : Int) := by rw [rangeSize_one]; split <;> omega
  refine ⟨_, _, _, _, _, _, rfl, walksB (Walks.range (prog := prog) (w := w) hh s.heap.objs.size a 1 (b - a).toNat), hsz, ?_, fun b hb => ?_, comp_quiet (F.push _) (fun p hp => ⟨Heap.get?_push_of_some _ (N p hp).1, (N p hp).2⟩) (fun b hb => ?_) (fun q hq => ?_) ?_ ?_, ?_⟩
  · show IsRangeIter _ _ _ _ _
    have e1 : (a + ((0 : Nat) : Int) * 1) = a := by simp
    have e2 : (((b - a).toNat : Int) - ((0 : Nat) : Int)) = Builtin.Range.rangeSize a b 1 := by rw [hrs]; simp
    rw [e1, e2]
    exact Heap.get?_push_size _ rfl
  · rw [List.mem_singleton.mp hb]; exact Heap.lt_size (Heap.get?_push_size _ rfl)
  · rw [List.mem_singleton.mp hb]; exact freshBase F (Nat.le_refl _)
  · exact notMem1 (Nat.ne_of_lt (Heap.lt_size (N q hq).1))
  · rintro i v ⟨hi, t, rfl⟩
    rw [Int.mul_one]
    exact htest i t (by omega)
  · rintro i v ⟨hi, t, rfl⟩
    rw [Int.mul_one]
    exact helt i t (by omega)
  · intro D h' tk ys vs hD hl hpl hlen hP hF hk
    obtain ⟨n, e⟩ := plainGet_list hpl
    have hne : ∀ b o, s.heap.get? b = some o → h'.get? b = some o := fun b o e => hk b o (notMem1 (Nat.ne_of_lt (Heap.lt_size e))) (Heap.get?_push_of_some _ e)
    refine hQ D h' tk n ys.toList vs ?_ hF ?_ hne e
    · have h1 := intsOf vs (fun j => a + (j : Int)) fun j v hj => by
        obtain ⟨_, t, rfl⟩ := hP j v hj
        exact ⟨t, by rw [Int.mul_one]⟩
      rw [hlen] at h1
      exact h1
    · cases q : s.heap.get? D with
      | none => rfl
      | some o => rw [Heap.get?_push_of_some _ q] at hD; cases hD

theorem compA_range {r : Addr} {a b : Int} {t₁ t₂ t₃ : Tok} {Q : Flow → Shared → Prop}
    (hh : A.handled = none) (hr : IsRange s.heap r a b 1 t₁ t₂ t₃) (hb : -(2 ^ 62) ≤ a ∧ a < 2 ^ 62 ∧ -(2 ^ 62) ≤ b ∧ b < 2 ^ 62) (hsz : (b - a).toNat ≤ sizeLine)
    (F : Fr h₀ env.locals s.heap m) (N : News h₀ env.locals s.heap news)
    (htest : ∀ (i : Nat) t, (i : Int) < b - a → TestAt prog w A h₀ news env scope cl x ifs (.int (a + (i : Int)) t) (p (.int (a + (i : Int)) t)))
    (helt : ∀ (i : Nat) t, (i : Int) < b - a → p (.int (a + (i : Int)) t) = true → EltAt prog w A h₀ news env scope cl x elt (.int (a + (i : Int)) t) (Fv (.int (a + (i : Int)) t)))
    (hQ : ∀ D h' tk n ws vs, IntsAre vs (rangeZ a (b - a).toNat) → Paired Fv (vs.filter p) ws → AllNe D news →
      Fr h₀ env.locals h' (fun z => if z = y then some (.ref D) else m z) → News h₀ env.locals h' ((D, listOf ws.toArray n) :: news) → Q .next { s with heap := h', toks := tk }) :
    wpAny (model prog w) A (pyIter (.ref r)) (fun it s₂ => CompA prog w A env elt x y ifs scope cl p Fv Q it s₂) NoE s := by
  refine wpAny_pyIter_range hr (small_one hb.1 hb.2.1 hb.2.2.1 hb.2.2.2) ?_
  have hrs : Builtin.Range.rangeSize a b 1 = ((b - a).toNat : Int) := by rw [rangeSize_one]; split <;> omega
  refine ⟨_, _, _, _, _, _, m, rfl, walksB (Walks.range (prog := prog) (w := w) hh s.heap.objs.size a 1 (b - a).toNat), hsz, ?_, fun b hb => ?_, notMem1 (Nat.ne_of_lt F.ns.lt), (F.push _).ns, comp_quiet (F.push _) (fun p hp => ⟨Heap.get?_push_of_some _ (N p hp).1, (N p hp).2⟩) (fun b hb => ?_) (fun q hq => ?_) ?_ ?_, ?_⟩
  · show IsRangeIter _ _ _ _ _
    have e1 : (a + ((0 : Nat) : Int) * 1) = a := by simp
    have e2 : (((b - a).toNat : Int) - ((0 : Nat) : Int)) = Builtin.Range.rangeSize a b 1 := by rw [hrs]; simp
    rw [e1, e2]
    exact Heap.get?_push_size _ rfl
  · rw [List.mem_singleton.mp hb]; exact Heap.lt_size (Heap.get?_push_size _ rfl)
  · rw [List.mem_singleton.mp hb]; exact freshBase F (Nat.le_refl _)
  · exact notMem1 (Nat.ne_of_lt (Heap.lt_size (N q hq).1))
  · rintro i v ⟨hi, t, rfl⟩
    rw [Int.mul_one]
    exact htest i t (by omega)
  · rintro i v ⟨hi, t, rfl⟩
    rw [Int.mul_one]
    exact helt i t (by omega)
  · intro D h' tk ys vs hD hl hpl hlen hP hF hn hk
    obtain ⟨n, e⟩ := plainGet_list hpl
    have hne : ∀ b o, b ≠ env.locals → s.heap.get? b = some o → h'.get? b = some o := fun b o hb e => hk b o hb (notMem1 (Nat.ne_of_lt (Heap.lt_size e))) (Heap.get?_push_of_some _ e)
    have hD' : s.heap.get? D = none := by
      cases q : s.heap.get? D with
      | none => rfl
      | some o => rw [Heap.get?_push_of_some _ q] at hD; cases hD
    have hnews : AllNe D news := newsNe hD' N
    have F' : Fr h₀ env.locals h' (fun z => if z = y then some (.ref D) else m z) := ⟨hn, fun b o e => hne b o (Nat.ne_of_lt (Nat.lt_of_lt_of_le (Heap.lt_size e) F.above)) (F.keep b o e), F.above⟩
    refine hQ D h' tk n ys.toList vs ?_ hF hnews F' (fun q hq => ?_)
    · have h1 := intsOf vs (fun j => a + (j : Int)) fun j v hj => by
        obtain ⟨_, t, rfl⟩ := hP j v hj
        exact ⟨t, by rw [Int.mul_one]⟩
      rw [hlen] at h1
      exact h1
    · rcases List.mem_cons.mp hq with rfl | hq
      · refine ⟨e, fun e' => ?_, ?_⟩
        · have e' : D = env.locals := e'
          obtain ⟨o, _, _, ho, _⟩ := F.ns
          rw [← e', hD'] at ho; cases ho
        · cases q : h₀.get? D with
          | none => rfl
          | some o => rw [F.keep _ _ q] at hD'; cases hD'
      · exact ⟨hne _ _ (N q hq).2.1 (N q hq).1, (N q hq).2⟩

theorem compE_list {L lst : Addr} {us : List Value} {Q : Value → Shared → Prop}
    (hh : A.handled = none) (hl : s.heap.IsList lst us.toArray) (hsz : us.length ≤ sizeLine)
    (F : Fr h₀ L s.heap m) (N : News h₀ L s.heap news)
    (htest : ∀ (i : Nat) v, us[i]? = some v → TestAt prog w A h₀ news env scope cl x ifs v (p v))
    (helt : ∀ (i : Nat) v, us[i]? = some v → p v = true → EltAt prog w A h₀ news env scope cl x elt v (Fv v))
    (hQ : ∀ D h' tk n ws, Paired Fv (us.filter p) ws → s.heap.get? D = none → s.heap.StaysIn h' → h'.get? D = some (listOf ws.toArray n) → Q (.ref D) { s with heap := h', toks := tk }) :
    wpAny (model prog w) A (pyIter (.ref lst)) (fun it s₂ => CompE prog w A env elt x ifs scope cl p Fv Q it s₂) NoE s := by
  refine wpAny_pyIter_list hl ?_
  obtain ⟨ol, hol, _⟩ := id hl
  have hlt : lst < s.heap.objs.size := Heap.lt_size hol
  have hne' : lst ≠ s.heap.objs.size := Nat.ne_of_lt hlt
  refine ⟨_, _, _, _, _, _, rfl, Walks.list (prog := prog) (w := w) hh s.heap.objs.size lst hne' us.toArray, by simpa using hsz, ⟨⟨_, Heap.get?_push_size _ rfl, rfl, rfl⟩, hl.at fun o e => Heap.get?_push_of_some _ e⟩, fun b hb => ?_, comp_quiet (F.push _) (fun p hp => ⟨Heap.get?_push_of_some _ (N p hp).1, (N p hp).2⟩) (fun b hb => ?_) (fun q hq => ?_) ?_ ?_, ?_⟩
  · rcases List.mem_cons.mp hb with rfl | hb
    · exact Heap.lt_size (Heap.get?_push_size _ rfl)
    · rw [List.mem_singleton.mp hb]; exact Heap.lt_size (Heap.get?_push_of_some _ hol)
  · rw [List.mem_singleton.mp hb]; exact freshBase F (Nat.le_refl _)
  · exact notMem1 (Nat.ne_of_lt (Heap.lt_size (N q hq).1))
  · intro i v hv
    exact htest i v (by simpa using hv)
  · intro i v hv
    exact helt i v (by simpa using hv)
  · intro D h' tk ys vs hD hl' hpl hlen hP hF hk
    obtain ⟨n, e⟩ := plainGet_list hpl
    have hvs : vs = us := by
      apply List.ext_getElem?
      intro j
      cases hj : vs[j]? with
      | some v => have := hP j v hj; rw [← this]; simp
      | none =>
        have h1 := List.getElem?_eq_none_iff.mp hj
        exact (List.getElem?_eq_none_iff.mpr (by simp at hlen; omega)).symm
    subst hvs
    have hne : ∀ b o, s.heap.get? b = some o → h'.get? b = some o := fun b o e => hk b o (notMem1 (Nat.ne_of_lt (Heap.lt_size e))) (Heap.get?_push_of_some _ e)
    refine hQ D h' tk n ys.toList hF ?_ hne e
    cases q : s.heap.get? D with
    | none => rfl
    | some o => rw [Heap.get?_push_of_some _ q] at hD; cases hD
end

section
variable {M : Model} {A : Around} {E : Value → Shared → Prop} {s : Shared} {K : Frag} {h₀ : Heap} {C : Addr} {m mg mb : Str → Option Value} {env : Env} {cl : List (Str × Addr)} {scope : Scope} {p : Program} {loose : List Str}
  {x : Str} {pos : Pos} {v : Value} {Q : Value → Shared → Prop} {news : List (Addr × Obj)} {c : Addr} {o : Obj}
theorem nameCL (F : Fr h₀ C s.heap m) (hv : m x = some v) (h : Q v s)
    (hk : (compEnvC scope cl C env).scope.kind = .function) (hx : (compEnvC scope cl C env).kindOf x = some .local) (hd : (x == ("__debug__" : Str)) = false) :
    wpAny M A (eval (.Name x pos) (compEnvC scope cl C env)) Q E s := wpAny_Name (wpAny_loadName_local hk hx F.ns hv h) hd
theorem nameCC (N : News h₀ C s.heap news) (hc : cl.lookup x = some c) (hm : (c, o) ∈ news) (hdt : o.data = .cell (some v)) (h : Q v s)
    (hk : (compEnvC scope cl C env).scope.kind = .function) (hx : (compEnvC scope cl C env).kindOf x = some .cell) (hd : (x == ("__debug__" : Str)) = false) :
    wpAny M A (eval (.Name x pos) (compEnvC scope cl C env)) Q E s := wpAny_Name (wpAny_loadName_cell hk hx hc ⟨o, N.get hm, hdt⟩ h) hd
theorem nameCG (F : Fr h₀ C s.heap m) (X : K.In h₀) (T : TopRead p loose mg mb h₀) (e : nsIn K mainGlobals x = some (some v)) (h : Q v s)
    (hg : (compEnvC scope cl C env).globals = mainGlobals) (hk : (compEnvC scope cl C env).scope.kind = .function) (hx : (compEnvC scope cl C env).kindOf x = some .globalImplicit) (hd : (x == ("__debug__" : Str)) = false) :
    wpAny M A (eval (.Name x pos) (compEnvC scope cl C env)) Q E s :=
  Name_function_global hk hx (loadGlobal_global (env := compEnvC scope cl C env) (by rw [hg]; exact T.g.keeps F.keep) (mg_of X T.g e) h) hd
end

theorem stays_hid {h₀ g h h' : Heap} {L : Addr} {hid : List (Addr × Obj)} (hoff : StaysOff (hid.map (·.1)) h h') (hh : ∀ p ∈ hid, h.get? p.1 = some p.2 ∧ h₀.get? p.1 = none) (N : News g L h' hid) : h.StaysIn h' := by
  intro b o e
  by_cases hb : b ∈ hid.map (·.1)
  · obtain ⟨p, hp, rfl⟩ := List.mem_map.mp hb
    rw [(hh p hp).1] at e
    cases e
    exact (N p hp).1
  · exact hoff b o hb e
end Mine
end

section
open PySem PySem.W PyProof.Rows PySem.Calls
set_option maxRecDepth 100000
namespace Mine
section
variable {prog : Program} {w : World} {A : Around} {s : Shared} {env : Env} {h₀ : Heap}
/-- a loop whose target is a cell -/
theorem forAt_cell {σ : Type} {Q : Flow → Shared → Prop} {x : Str} {px : Pos} {body orelse : List Stmt} {I c : Addr} {fp wr : List Addr} {n : Nat} {PV : Nat → Value → Prop} {St : Nat → Heap → Prop} {m : Str → Option Value}
    (W : Walks prog w A I fp wr n PV St) (hlive : ∀ i h, St i h → ∀ b ∈ fp, ∃ o, h.get? b = some o)
    (hk : env.scope.kind = .function) (hx : env.kindOf x = some .cell) (hc : env.cells.lookup x = some c)
    (hLf : env.locals ∉ fp) (hwr : ∀ b ∈ wr, h₀.get? b = none)
    (l : σ → List (Str × Value)) (oc : σ → Obj) (nr : σ → List (Addr × Obj)) (P : Nat → σ → Prop) (PB : σ → Prop) (y₀ : σ)
    (hst : St 0 s.heap) (F : Fr h₀ env.locals s.heap m) (hm : ∀ p ∈ l y₀, m p.1 = some p.2) (N : News h₀ env.locals s.heap ((c, oc y₀) :: nr y₀)) (hoff : ∀ p ∈ (c, oc y₀) :: nr y₀, p.1 ∉ fp) (hP : P 0 y₀)
    (hd : ∀ i y, P i y → (∀ p ∈ nr y, p.1 ≠ c) ∧ ∃ v₀, (oc y).data = .cell v₀)
    (turn : ∀ i v y u h₁ tk₁ own o', i < n → PV i v → o'.data = .cell (some v) → P i y → OwnOff own (c :: (nr y).map (·.1)) → Fr h₀ env.locals h₁ (ov (l y) u) → News h₀ env.locals h₁ ((c, o') :: nr y ++ own) →
      wpAny (model prog w) A (execs body env) (StepF h₀ env.locals l (fun y => (c, oc y) :: nr y) (P (i + 1)) PB own { s with heap := h₁, toks := tk₁ } (fun v s' => Q (.ret v) s')) NoE { s with heap := h₁, toks := tk₁ })
    (done : ∀ y u h₁ tk₁, P n y → Fr h₀ env.locals h₁ (ov (l y) u) → News h₀ env.locals h₁ ((c, oc y) :: nr y) → wpAny (model prog w) A (execs orelse env) Q NoE { s with heap := h₁, toks := tk₁ })
    (brk : ∀ y u h₁ tk₁, PB y → Fr h₀ env.locals h₁ (ov (l y) u) → News h₀ env.locals h₁ ((c, oc y) :: nr y) → Q .next { s with heap := h₁, toks := tk₁ }) :
    ForAt prog w A env x px body orelse Q (.ref I) s := by
  have hLw : env.locals ∉ wr := fun h => hLf (W.sub _ h)
  have old : ∀ b o, h₀.get? b = some o → b ∉ wr := fun b o e hb => by rw [hwr b hb] at e; cases e
  unfold ForAt
  refine codeAny_forLoop
    (fun k s' => ∃ h' tk m' y i, s' = { s with heap := h', toks := tk } ∧ St i h' ∧ Fr h₀ env.locals h' m' ∧ (∀ p ∈ l y, m' p.1 = some p.2) ∧ News h₀ env.locals h' ((c, oc y) :: nr y) ∧ (∀ p ∈ (c, oc y) :: nr y, p.1 ∉ fp) ∧ P i y ∧ i ≤ n ∧ k = n + 1 - i) ?_ (n + 1)
    ⟨s.heap, s.toks, m, y₀, 0, rfl, hst, F, hm, N, hoff, hP, Nat.zero_le _, rfl⟩
  rintro k s' ⟨h', tk, m', y, i, rfl, hst', F', hm', N', hoff', hPy, hi, rfl⟩
  have next : ∀ h₁ : Heap, (∀ b o, b ∉ wr → h'.get? b = some o → h₁.get? b = some o) → Fr h₀ env.locals h₁ m' ∧ News h₀ env.locals h₁ ((c, oc y) :: nr y) := fun h₁ hk₁ =>
    ⟨⟨F'.ns.at' fun o e => hk₁ _ o hLw e, fun b o e => hk₁ b o (old b o e) (F'.keep b o e), F'.above⟩, fun p hp => ⟨hk₁ _ _ (fun hw => hoff' p hp (W.sub _ hw)) (N' p hp).1, (N' p hp).2⟩⟩
  by_cases hlt : i < n
  · refine wpAny_mono (W.item i _ _ (fun _ _ => False) hlt hst' fun v h₁ tk₁ hPv hst₁ hk₁ => ?_) (fun _ _ z => z) fun _ _ e => e.elim
    obtain ⟨F₁, N₁⟩ := next h₁ hk₁
    obtain ⟨hdist, v₀, hcd⟩ := hd i y hPy
    have hcN := N₁ (c, oc y) (.head _)
    have hcf : c ∉ fp := hoff' (c, oc y) (.head _)
    refine wpAny_assign_Name (wpAny_storeName_cell hk hx hc ⟨oc y, hcN.1, hcd⟩ (fun h₂ hn₂ hs₂ => ?_))
    obtain ⟨o', ho', hd'⟩ := hn₂
    have F₂ : Fr h₀ env.locals h₂ m' := ⟨F₁.ns.sameBut hs₂ (Ne.symm hcN.2.1), fun b ob e => (hs₂.2 b (fun q => by rw [q, hcN.2.2] at e; cases e)).trans (F₁.keep b ob e), F₁.above⟩
    have N₂ : News h₀ env.locals h₂ ((c, o') :: nr y) := News.setAt (own := []) N₁ (fun _ h => nomatch h) hdist hs₂ ho'
    have Nown : News h₀ env.locals h₂ (ownOf h₀ fp h₂) := news_ownOf hLf
    have hst₂ : St (i + 1) h₂ := W.frame _ _ _ hst₁ fun b hb o e => (hs₂.2 b fun q => hcf (q ▸ hb)).trans e
    have e₁ := ov_of hm'
    have F₃ : Fr h₀ env.locals h₂ (ov (l y) m') := by rw [e₁]; exact F₂
    have hown : OwnOff (ownOf h₀ fp h₂) (c :: (nr y).map (·.1)) := fun p hp b hb e => by
      obtain ⟨q, hq, rfl⟩ := List.mem_map.mp (show b ∈ ((c, oc y) :: nr y).map (·.1) from hb)
      exact hoff' q hq (e ▸ ownOf_sub p hp)
    refine wpAny_mono (turn i v y m' h₂ _ (ownOf h₀ fp h₂) o' hlt hPv hd' hPy hown F₃ (N₂.append Nown)) (fun f s₃ h₃ => ?_) fun _ _ e => e.elim
    have fin : (∃ h' tk m' y, s₃ = { s with heap := h', toks := tk } ∧ Fr h₀ env.locals h' m' ∧ (∀ p ∈ l y, m' p.1 = some p.2) ∧ News h₀ env.locals h' ((c, oc y) :: nr y ++ ownOf h₀ fp h₂) ∧ OwnOff (ownOf h₀ fp h₂) (((c, oc y) :: nr y).map (·.1)) ∧ P (i + 1) y) →
        ∃ m, m < n + 1 - i ∧ ∃ h' tk m' y j, s₃ = { s with heap := h', toks := tk } ∧ St j h' ∧ Fr h₀ env.locals h' m' ∧ (∀ p ∈ l y, m' p.1 = some p.2) ∧ News h₀ env.locals h' ((c, oc y) :: nr y) ∧ (∀ p ∈ (c, oc y) :: nr y, p.1 ∉ fp) ∧ P j y ∧ j ≤ n ∧ m = n + 1 - j := by
      rintro ⟨h₄, tk₄, m₄, y₄, rfl, F₄, hm₄, N₄, ho₄, hP₄⟩
      refine ⟨n + 1 - (i + 1), by omega, h₄, tk₄, m₄, y₄, i + 1, rfl, ?_, F₄, hm₄, fun p hp => N₄ p (List.mem_append_left _ hp), ?_, hP₄, hlt, rfl⟩
      · refine W.frame _ _ _ hst₂ fun b hb o e₂ => ?_
        cases hn : h₀.get? b with
        | some o₀ =>
          have : o₀ = o := by have := F₂.keep b o₀ hn; rw [e₂] at this; exact (Option.some.inj this).symm
          exact this ▸ F₄.keep b o₀ hn
        | none => exact (N₄ _ (List.mem_append_right _ (mem_ownOf hb hn e₂))).1
      · intro p hp hb
        obtain ⟨o, ho⟩ := hlive _ _ hst₂ _ hb
        exact ho₄ (p.1, o) (mem_ownOf hb (N₄ p (List.mem_append_left _ hp)).2.2 ho) p.1 (List.mem_map.mpr ⟨p, hp, rfl⟩) rfl
    cases f with
    | ret v => exact h₃
    | brk =>
      obtain ⟨h₄, tk₄, m₄, y₄, rfl, F₄, hm₄, N₄, hP₄⟩ := h₃
      exact brk y₄ m₄ h₄ tk₄ hP₄ (by rw [ov_of hm₄]; exact F₄) N₄
    | cont => exact fin h₃
    | next => exact fin h₃
  · have hin : i = n := by omega
    subst hin
    refine wpAny_mono (W.done _ _ (fun _ _ => False) hst' fun h₁ tk₁ hk₁ => ?_) (fun _ _ z => z) fun _ _ e => e.elim
    obtain ⟨F₁, N₁⟩ := next h₁ hk₁
    exact wpAny_mono (done y m' h₁ tk₁ hPy (by rw [ov_of hm']; exact F₁) N₁) (fun _ _ z => z) fun _ _ e => e.elim

theorem iter_rangeC {σ : Type} {Q : Flow → Shared → Prop} {x : Str} {px : Pos} {body : List Stmt} {r c : Addr} {a b : Int} {t₁ t₂ t₃ : Tok} {m : Str → Option Value}
    (hh : A.handled = none) (hr : IsRange s.heap r a b 1 t₁ t₂ t₃) (hb : -(2 ^ 62) ≤ a ∧ a < 2 ^ 62 ∧ -(2 ^ 62) ≤ b ∧ b < 2 ^ 62)
    (hk : env.scope.kind = .function) (hx : env.kindOf x = some .cell) (hc : env.cells.lookup x = some c)
    (l : σ → List (Str × Value)) (oc : σ → Obj) (nr : σ → List (Addr × Obj)) (P : Nat → σ → Prop) (PB : σ → Prop) (y₀ : σ)
    (F : Fr h₀ env.locals s.heap m) (hm : ∀ p ∈ l y₀, m p.1 = some p.2) (N : News h₀ env.locals s.heap ((c, oc y₀) :: nr y₀)) (hP : P 0 y₀)
    (hd : ∀ i y, P i y → (∀ p ∈ nr y, p.1 ≠ c) ∧ ∃ v₀, (oc y).data = .cell v₀)
    (turn : ∀ (i : Nat) t y u h₁ tk₁ own o', (i : Int) < b - a → o'.data = .cell (some (.int (a + (i : Int)) t)) → P i y → OwnOff own (c :: (nr y).map (·.1)) → Fr h₀ env.locals h₁ (ov (l y) u) → News h₀ env.locals h₁ ((c, o') :: nr y ++ own) →
      wpAny (model prog w) A (execs body env) (StepF h₀ env.locals l (fun y => (c, oc y) :: nr y) (P (i + 1)) PB own { s with heap := h₁, toks := tk₁ } (fun v s' => Q (.ret v) s')) NoE { s with heap := h₁, toks := tk₁ })
    (conv : ∀ y, P (b - a).toNat y → PB y)
    (fin : ∀ y u h₁ tk₁, PB y → Fr h₀ env.locals h₁ (ov (l y) u) → News h₀ env.locals h₁ ((c, oc y) :: nr y) → Q .next { s with heap := h₁, toks := tk₁ }) :
    wpAny (model prog w) A (pyIter (.ref r)) (fun it s₂ => ForAt prog w A env x px body [] Q it s₂) NoE s := by
  refine wpAny_pyIter_range hr (small_one hb.1 hb.2.1 hb.2.2.1 hb.2.2.2) ?_
  have hsz : Builtin.Range.rangeSize a b 1 = ((b - a).toNat : Int) := by rw [rangeSize_one]; split <;> omega
  have W := Walks.range (prog := prog) (w := w) hh s.heap.objs.size a 1 (b - a).toNat
  refine forAt_cell W (fun i h st b hb => ?_) hk hx hc ?_ ?_ l oc nr P PB y₀ ?_ (F.push _) hm
    (fun p hp => ⟨Heap.get?_push_of_some _ (N p hp).1, (N p hp).2⟩) ?_ hP hd ?_ ?_ ?_
  · rw [List.mem_singleton.mp hb]; exact ⟨_, st⟩
  · exact notMem1 (Nat.ne_of_lt F.ns.lt)
  · intro b hb
    rw [List.mem_singleton.mp hb]; exact freshBase F (Nat.le_refl _)
  · show IsRangeIter _ _ _ _ _
    have e1 : (a + ((0 : Nat) : Int) * 1) = a := by simp
    have e2 : (((b - a).toNat : Int) - ((0 : Nat) : Int)) = Builtin.Range.rangeSize a b 1 := by rw [hsz]; simp
    rw [e1, e2]
    exact Heap.get?_push_size _ rfl
  · intro p hp
    exact notMem1 (Nat.ne_of_lt (Heap.lt_size (N p hp).1))
  · rintro i v y u h₁ tk₁ own o' hi ⟨t, rfl⟩ hd' hPy ho F₁ N₁
    exact turn i t y u h₁ tk₁ own o' (by omega) (by simpa using hd') hPy ho F₁ N₁
  · intro y u h₁ tk₁ hPy F₁ N₁
    exact wpAny_execs_nil (fin y u h₁ tk₁ (conv y hPy) F₁ N₁)
  · intro y u h₁ tk₁ hPy F₁ N₁
    exact fin y u h₁ tk₁ hPy F₁ N₁
end
end Mine
end

section
open PySem PySem.W PyProof.Rows PySem.Calls PySem.SeqAt
set_option maxRecDepth 100000
namespace Mine
local macro_rules | `(tactic| ktr_room) => `(tactic| first | exact room2 (by assumption) rfl | exact room1 (by assumption) rfl | exact room0 (by assumption))
local macro_rules | `(tactic| ktr_units) => `(tactic| first | exact room2 (by assumption) rfl | exact room1 (by assumption) rfl)
local macro_rules | `(tactic| k_ne) => `(tactic| first | assumption | exact Ne.symm (by assumption) | (refine neN ?_; (try dsimp only); first | (refine Nat.ne_of_lt ?_; (repeat (first | exact Nat.lt_succ_self _ | refine Nat.lt_succ_of_lt ?_)); done) | (refine Nat.ne_of_gt ?_; (repeat (first | exact Nat.lt_succ_self _ | refine Nat.lt_succ_of_lt ?_)); done) | omega))
local macro_rules | `(tactic| walk_at "my names") => `(tactic| (repeat (first | exact allNil | (refine allCons ?myh ?_; (case myh => (try dsimp only); first | exact rfl | assumption)))))
local macro_rules | `(tactic| walk_at "my sub") => `(tactic| (repeat (first | exact allNil | (refine allCons ?myh ?_; (case myh => first | assumption | k_mem)))))
local macro_rules | `(tactic| walk_at "my own") => `(tactic| (intro p hp; repeat (first | exact hp | refine List.mem_cons_of_mem _ ?_)))
local macro_rules | `(tactic| walk_at "exec For Name Call cons nil") => `(tactic| refine Hold.out ?_)
local macro_rules | `(tactic| walk_at "pyIter ref") => `(tactic| refine Hold.out ?_)
local macro_rules | `(tactic| walk_at "my enter") => `(tactic| (
  (case k1 => k_asm); (case k2 => k_asm); (case k3 => ktr_room); (case k4 => k_is); (case k5 => k_is);
  (case k7 => exact locs rfl); (case c1 => exact rfl); (case c2 => exact rfl); (case c3 => exact rfl); (case c4 => decide)))

section
open PySem PySem.W PyProof.Rows PySem.Calls
set_option maxRecDepth 100000
-- entering a def: the binds are given ahead
local macro_rules | `(tactic| walk_at "my enter") => `(tactic| (
  (case k1 => k_asm); (case k2 => k_asm); (case k3 => ktr_room); (case k4 => k_is); (case k5 => k_is);
  (case k6 => first | exact BindsTo.of_eq rfl | exact binds_K (by k_in) rfl (by k_is) rfl rfl rfl);
  (case k7 => exact locs rfl); (case c1 => exact rfl); (case c2 => exact rfl); (case c3 => exact rfl); (case c4 => decide)))

set_option maxHeartbeats 4000000 in
theorem exchanged_spec {w : World} {dp un : Nat} {fr : Option (List Env)} {gd : Option (List Code)} {s : Shared} {p : Program} {loose : List Str} {mg mb : Str → Option Value} {Q E : Value → Shared → Prop}
    {l : Addr} {vs : List Value} {ns : List Int} {i j : Int} {ti tj : Tok}
    (X : (hd.heap_39 w.params).In s.heap) (T : TopRead p loose mg mb s.heap) (hroom : dp + 1 < recursionLimit)
    (hl : s.heap.IsList l vs.toArray) (hI : IntsAre vs ns) (hlen : ns.length = 5) (hi : 0 ≤ i ∧ i < 5) (hj : 0 ≤ j ∧ j < 5)
    (h : ∀ r h' tk ws n, s.heap.StaysIn h' → s.heap.get? r = none → h'.get? r = some (listOf ws.toArray n) → IntsAre ws ((ns.set i.toNat (ns.getD j.toNat 0)).set j.toNat (ns.getD i.toNat 0)) → Q (.ref r) { s with heap := h', toks := tk }) :
    wpAny (model PySem.Challenge.rw_sn0043_01.row.prog w) (ar dp un fr gd) (call (.ref 136) [.ref l, .int i ti, .int j tj]) Q E s := by
  revert X
  k_fill
  intro X
  refine' enterF (binds := [(Str.ofString "order", .ref l), (Str.ofString "one", .int i ti), (Str.ofString "other", .int j tj)]) ?k1 ?k2 ?k3 ?k4 ?k5 ?k6 ?k7 ?_ ?c1 ?c2 ?c3 ?c4
  walk_at "my enter"
  intro h₁ tk₁ F N
  k_steps
  rename News _ _ _ _ => N'
  exact h _ _ _ _ _ (Fr.keep (by assumption)) (N' _ (.head _)).2.2 (N' _ (.head _)).1 (by assumption)
end

section
open PySem PySem.W PyProof.Rows PySem.Calls
set_option maxRecDepth 100000
local macro_rules | `(tactic| walk_at "my pad") => `(tactic| skip)
local macro_rules | `(tactic| walk_at "exec While Compare cons nil") => `(tactic| refine Hold.out ?_)
/-- the place k in the row ns: all before it are below x, none behind it -/
structure Lft (ns : List Int) (x k : Int) : Prop where
  lo : 0 ≤ k
  hi : k ≤ ns.length
  below : ∀ i : Nat, (i : Int) < k → ns.getD i 0 < x
  above : ∀ i : Nat, k ≤ (i : Int) → i < ns.length → x ≤ ns.getD i 0
noncomputable def Srt (ns : List Int) : Prop := ∀ i j : Nat, i ≤ j → j < ns.length → ns.getD i 0 ≤ ns.getD j 0

structure LftW (ns : List Int) (x a b : Int) : Prop where
  lo : 0 ≤ a
  le : a ≤ b
  hi : b ≤ ns.length
  below : ∀ i : Nat, (i : Int) < a → ns.getD i 0 < x
  above : ∀ i : Nat, b ≤ (i : Int) → i < ns.length → x ≤ ns.getD i 0

theorem LftW.up {ns : List Int} {x lo hi : Int} (h : LftW ns x lo hi) (hs : Srt ns) (hlt : lo < hi) (hm : ns.getD ((lo + hi).fdiv 2).toNat 0 < x) : LftW ns x ((lo + hi).fdiv 2 + 1) hi ∧ (hi - ((lo + hi).fdiv 2 + 1)).toNat < (hi - lo).toNat := by
  have h1 := h.lo; have h2 := h.le; have h3 := h.hi
  have e := Int.fdiv_eq_ediv_of_nonneg (lo + hi) (b := 2) (by decide)
  rw [e] at hm ⊢
  refine ⟨⟨by omega, by omega, by omega, fun i hi' => ?_, h.above⟩, by omega⟩
  exact Int.lt_of_le_of_lt (hs i _ (by omega) (by omega)) hm
theorem LftW.down {ns : List Int} {x lo hi : Int} (h : LftW ns x lo hi) (hs : Srt ns) (hlt : lo < hi) (hm : ¬ ns.getD ((lo + hi).fdiv 2).toNat 0 < x) : LftW ns x lo ((lo + hi).fdiv 2) ∧ (((lo + hi).fdiv 2) - lo).toNat < (hi - lo).toNat := by
  have h1 := h.lo; have h2 := h.le; have h3 := h.hi
  have e := Int.fdiv_eq_ediv_of_nonneg (lo + hi) (b := 2) (by decide)
  rw [e] at hm ⊢
  refine ⟨⟨by omega, by omega, by omega, h.below, fun i hi' hl => ?_⟩, by omega⟩
  exact Int.le_trans (Int.not_lt.mp hm) (hs _ i (by omega) hl)

set_option maxHeartbeats 4000000 in
theorem bisect_left_spec {w : World} {dp un : Nat} {fr : Option (List Env)} {gd : Option (List Code)} {s : Shared} {p : Program} {loose : List Str} {mg mb : Str → Option Value} {Q E : Value → Shared → Prop}
    {l : Addr} {vs : List Value} {ns : List Int} {x : Int} {tx tl : Tok} {pos : List Value}
    (X : (hd.heap_39 w.params).In s.heap) (T : TopRead p loose mg mb s.heap) (hroom : dp + 1 < recursionLimit)
    (hpos : (pos = [.ref l, .int x tx] ∧ tl = 325) ∨ pos = [.ref l, .int x tx, .int 0 tl, .none])
    (hl : s.heap.IsList l vs.toArray) (hI : IntsAre vs ns) (hlen : ns.length < 1000) (hs : Srt ns)
    (h : ∀ k t h' tk, s.heap.StaysIn h' → Lft ns x k → Q (.int k t) { s with heap := h', toks := tk }) :
    wpAny (model PySem.Challenge.rw_sn0043_01.row.prog w) (ar dp un fr gd) (call (.ref 114) pos) Q E s := by
  revert X
  k_fill
  intro X
  refine' enterF (binds := [(Str.ofString "a", .ref l), (Str.ofString "x", .int x tx), (Str.ofString "lo", .int 0 tl), (Str.ofString "hi", .none), (Str.ofString "key", .none)]) ?k1 ?k2 ?k3 ?k4 ?k5 ?k6 ?k7 ?_ ?c1 ?c2 ?c3 ?c4
  walk_at "my enter"
  (case k6 => 
    rcases hpos with ⟨rfl, rfl⟩ | rfl
    · exact kp_binds X (fun _ => by kernel_rfl)
    · exact kp_binds X (fun _ => by kernel_rfl))
  intro h₁ tk₁ F N
  k_steps
  · constructor
    rename Fr _ _ _ _ => F
    rename News _ _ _ _ => N
    refine' While_ov (σ := Int × Tok × Int × Tok) (ns.length) (fun y => [(Str.ofString "a", .ref l), (Str.ofString "x", .int x tx), (Str.ofString "lo", .int y.1 y.2.1), (Str.ofString "hi", .int y.2.2.1 y.2.2.2)]) (fun _ => []) (fun n y => LftW ns x y.1 y.2.2.1 ∧ n = (y.2.2.1 - y.1).toNat) (_, _, _, _) F ?hm N ?hP ?turn
    (case hm => walk_at "my names")
    (case hP => dsimp only; exact ⟨⟨by decide, by omega, Int.le_refl _, fun i hi => by omega, fun i h1 h2 => by omega⟩, by omega⟩)
    (case turn => 
      clear F N
      rintro n ⟨lo, tlo, hi, thi⟩ u h₂ tk₂ ⟨hW, rfl⟩ F N
      have h1 := hW.lo; have h2 := hW.le; have h3 := hW.hi
      dsimp only [ov] at h1 h2 h3 F N hW ⊢
      k_steps
      · obtain ⟨a, b⟩ := hW.up hs (by assumption) (by assumption)
        refine' StepW.next (_, _, _, _) (by assumption) ?hm (by assumption) ?hn ?hP
        (case hm => walk_at "my names")
        (case hP => exact ⟨a, rfl⟩)
        (case hn => exact b)
      · obtain ⟨a, b⟩ := hW.down hs (by assumption) (by assumption)
        refine' StepW.next (_, _, _, _) (by assumption) ?hm (by assumption) ?hn ?hP
        (case hm => walk_at "my names")
        (case hP => exact ⟨a, rfl⟩)
        (case hn => exact b)
      · exact h _ _ _ _ (Fr.keep (by assumption)) ⟨hW.lo, by omega, hW.below, fun i a b => hW.above i (by omega) b⟩)
end

section
open PySem PySem.W PyProof.Rows PySem.Calls
set_option maxRecDepth 100000
local macro_rules | `(tactic| walk_at "exec While Compare cons nil") => `(tactic| refine Hold.out ?_)
/-- the place k in the row ns: all before it are below x, none behind it -/
structure Rgt (ns : List Int) (x k : Int) : Prop where
  lo : 0 ≤ k
  hi : k ≤ ns.length
  below : ∀ i : Nat, (i : Int) < k → ns.getD i 0 ≤ x
  above : ∀ i : Nat, k ≤ (i : Int) → i < ns.length → x < ns.getD i 0
structure RgtW (ns : List Int) (x a b : Int) : Prop where
  lo : 0 ≤ a
  le : a ≤ b
  hi : b ≤ ns.length
  below : ∀ i : Nat, (i : Int) < a → ns.getD i 0 ≤ x
  above : ∀ i : Nat, b ≤ (i : Int) → i < ns.length → x < ns.getD i 0

theorem RgtW.up {ns : List Int} {x lo hi : Int} (h : RgtW ns x lo hi) (hs : Srt ns) (hlt : lo < hi) (hm : ¬ x < ns.getD ((lo + hi).fdiv 2).toNat 0) : RgtW ns x ((lo + hi).fdiv 2 + 1) hi ∧ (hi - ((lo + hi).fdiv 2 + 1)).toNat < (hi - lo).toNat := by
  have h1 := h.lo; have h2 := h.le; have h3 := h.hi
  have e := Int.fdiv_eq_ediv_of_nonneg (lo + hi) (b := 2) (by decide)
  rw [e] at hm ⊢
  refine ⟨⟨by omega, by omega, by omega, fun i hi' => ?_, h.above⟩, by omega⟩
  exact Int.le_trans (hs i _ (by omega) (by omega)) (Int.not_lt.mp hm)
theorem RgtW.down {ns : List Int} {x lo hi : Int} (h : RgtW ns x lo hi) (hs : Srt ns) (hlt : lo < hi) (hm : x < ns.getD ((lo + hi).fdiv 2).toNat 0) : RgtW ns x lo ((lo + hi).fdiv 2) ∧ (((lo + hi).fdiv 2) - lo).toNat < (hi - lo).toNat := by
  have h1 := h.lo; have h2 := h.le; have h3 := h.hi
  have e := Int.fdiv_eq_ediv_of_nonneg (lo + hi) (b := 2) (by decide)
  rw [e] at hm ⊢
  refine ⟨⟨by omega, by omega, by omega, h.below, fun i hi' hl => ?_⟩, by omega⟩
  exact Int.lt_of_lt_of_le hm (hs _ i (by omega) hl)

set_option maxHeartbeats 4000000 in
theorem bisect_right_spec {w : World} {dp un : Nat} {fr : Option (List Env)} {gd : Option (List Code)} {s : Shared} {p : Program} {loose : List Str} {mg mb : Str → Option Value} {Q E : Value → Shared → Prop}
    {l : Addr} {vs : List Value} {ns : List Int} {x : Int} {tx tl : Tok} {pos : List Value}
    (X : (hd.heap_39 w.params).In s.heap) (T : TopRead p loose mg mb s.heap) (hroom : dp + 1 < recursionLimit)
    (hpos : (pos = [.ref l, .int x tx] ∧ tl = 298) ∨ pos = [.ref l, .int x tx, .int 0 tl, .none])
    (hl : s.heap.IsList l vs.toArray) (hI : IntsAre vs ns) (hlen : ns.length < 1000) (hs : Srt ns)
    (h : ∀ k t h' tk, s.heap.StaysIn h' → Rgt ns x k → Q (.int k t) { s with heap := h', toks := tk }) :
    wpAny (model PySem.Challenge.rw_sn0043_01.row.prog w) (ar dp un fr gd) (call (.ref 96) pos) Q E s := by
  revert X
  k_fill
  intro X
  refine' enterF (binds := [(Str.ofString "a", .ref l), (Str.ofString "x", .int x tx), (Str.ofString "lo", .int 0 tl), (Str.ofString "hi", .none), (Str.ofString "key", .none)]) ?k1 ?k2 ?k3 ?k4 ?k5 ?k6 ?k7 ?_ ?c1 ?c2 ?c3 ?c4
  walk_at "my enter"
  (case k6 => 
    rcases hpos with ⟨rfl, rfl⟩ | rfl
    · exact kp_binds X (fun _ => by kernel_rfl)
    · exact kp_binds X (fun _ => by kernel_rfl))
  intro h₁ tk₁ F N
  k_steps
  · constructor
    rename Fr _ _ _ _ => F
    rename News _ _ _ _ => N
    refine' While_ov (σ := Int × Tok × Int × Tok) (ns.length) (fun y => [(Str.ofString "a", .ref l), (Str.ofString "x", .int x tx), (Str.ofString "lo", .int y.1 y.2.1), (Str.ofString "hi", .int y.2.2.1 y.2.2.2)]) (fun _ => []) (fun n y => RgtW ns x y.1 y.2.2.1 ∧ n = (y.2.2.1 - y.1).toNat) (_, _, _, _) F ?hm N ?hP ?turn
    (case hm => walk_at "my names")
    (case hP => dsimp only; exact ⟨⟨by decide, by omega, Int.le_refl _, fun i hi => by omega, fun i h1 h2 => by omega⟩, by omega⟩)
    (case turn => 
      clear F N
      rintro n ⟨lo, tlo, hi, thi⟩ u h₂ tk₂ ⟨hW, rfl⟩ F N
      have h1 := hW.lo; have h2 := hW.le; have h3 := hW.hi
      dsimp only [ov] at h1 h2 h3 F N hW ⊢
      k_steps
      · obtain ⟨a, b⟩ := hW.down hs (by assumption) (by assumption)
        refine' StepW.next (_, _, _, _) (by assumption) ?hm (by assumption) ?hn ?hP
        (case hm => walk_at "my names")
        (case hP => exact ⟨a, rfl⟩)
        (case hn => exact b)
      · obtain ⟨a, b⟩ := hW.up hs (by assumption) (by assumption)
        refine' StepW.next (_, _, _, _) (by assumption) ?hm (by assumption) ?hn ?hP
        (case hm => walk_at "my names")
        (case hP => exact ⟨a, rfl⟩)
        (case hn => exact b)
      · exact h _ _ _ _ (Fr.keep (by assumption)) ⟨hW.lo, by omega, hW.below, fun i a b => hW.above i (by omega) b⟩)
end

section
open PySem PySem.W PyProof.Rows PySem.Calls
set_option maxRecDepth 100000
local macro_rules | `(tactic| walk_at "call ref") => `(tactic| ((with_reducible show wpAny _ _ (call (Value.ref 114) _ _) _ _ _); refine Hold.out ?_))
local macro_rules | `(tactic| walk_at "call builtin:list.insert") => `(tactic| refine Hold.out ?_)

set_option maxHeartbeats 4000000 in
theorem insort_left_spec {w : World} {dp un : Nat} {fr : Option (List Env)} {gd : Option (List Code)} {s : Shared} {h₀ : Heap} {p : Program} {loose : List Str} {mg mb : Str → Option Value} {Q E : Value → Shared → Prop}
    {l : Addr} {vs : List Value} {ns : List Int} {x : Int} {tx : Tok} {n : Nat}
    (X : (hd.heap_39 w.params).In h₀) (T : TopRead p loose mg mb h₀) (k₀ : h₀.StaysIn s.heap) (hl₀ : h₀.get? l = none) (hlo : s.heap.get? l = some (listOf vs.toArray n)) (hroom : dp + 2 < recursionLimit)
    (hI : IntsAre vs ns) (hlen : ns.length < 1000) (hs : Srt ns)
    (h : ∀ (k : Int) h' tk, StaysBut l s.heap h' → Lft ns x k → h'.get? l = some (listOf (vs.take k.toNat ++ .int x tx :: vs.drop k.toNat).toArray (n + 1)) → Q .none { s with heap := h', toks := tk }) :
    wpAny (model PySem.Challenge.rw_sn0043_01.row.prog w) (ar dp un fr gd) (call (.ref 105) [.ref l, .int x tx]) Q E s := by
  revert X
  k_fill
  intro X
  refine' enterM (binds := [(Str.ofString "a", .ref l), (Str.ofString "x", .int x tx), (Str.ofString "lo", .int 0 312), (Str.ofString "hi", .none), (Str.ofString "key", .none)]) X T k₀ hl₀ hlo ?k3 ?k4 ?k5 ?k6 ?k7 ?_ ?c1 ?c2 ?c3 ?c4
  (case k3 => ktr_room)
  (case k4 => k_is)
  (case k5 => k_is)
  (case k7 => exact locs rfl)
  (case c1 => exact rfl)
  (case c2 => exact rfl)
  (case c3 => exact rfl)
  (case c4 => decide)
  (case k6 => exact kp_binds (X.keeps k₀) (fun _ => by kernel_rfl))
  intro g h₁ tk₁ kg kg₀ Xg Tg F N
  clear X T
  k_steps
  · constructor
    rename Fr _ _ _ _ => F
    rename News _ _ _ _ => N
    refine' bisect_left_spec (Xg.keeps F.keep) (Tg.keeps F.keep) ?_ (.inr rfl) (PySem.IsL.isList (N _ (.head _)).1) hI hlen hs ?_
    · ktr_room
    intro k t h' tk' st hL
    replace F := frStays F st
    replace N := newsStays N st
    have hk1 := hL.lo
    have hk2 := hL.hi
    dsimp only at F N ⊢
    k_steps
    · constructor
      rename Fr _ _ _ _ => F
      rename News _ _ _ _ => N
      have hv := hI.length
      have e : kl_ins vs k (.int x tx) = vs.take k.toNat ++ .int x tx :: vs.drop k.toNat := by
        unfold kl_ins
        rw [if_neg (by omega), Nat.min_eq_left (by omega)]
      refine' kl_insert F N ?f e ?U ?z ?_
      (case U => k_upd)
      (case f => simp only [Builtin.List.listFitsIndex, decide_eq_true_eq, Bool.and_eq_true]; omega)
      (case z => rw [sizeLine_eq]; show vs.length ≤ _; omega)
      intro h₂ F₂ N₂
      dsimp only at F₂ N₂ ⊢
      k_steps
      exact h k _ _ (kg _ (Fr.keep (by assumption))) hL (N₂ _ (.head _)).1
end

section
open PySem PySem.W PyProof.Rows PySem.Calls
set_option maxRecDepth 100000
local macro_rules | `(tactic| walk_at "call type:tuple") => `(tactic| refine Hold.out ?_)
local macro_rules | `(tactic| walk_at "pyIter str") => `(tactic| refine Hold.out ?_)
local macro_rules | `(tactic| walk_at "exec For Name Attribute cons nil") => `(tactic| refine Hold.out ?_)

/-- what the counting loop reckons -/
structure WS where
  n : Int
  b : Int
  nt : Int
  count : List Int
noncomputable def wsSp (y : WS) : WS := { y with n := y.n + 1, b := y.b + 1 }
noncomputable def wsGrow (y : WS) : List Int := if y.b ≥ y.count.length then y.count ++ List.replicate (y.b - y.count.length + 1).toNat 0 else y.count
noncomputable def wsTab (y : WS) : WS := { n := y.n + 1, b := 0, nt := y.nt + 1, count := (wsGrow y).set y.b.toNat ((wsGrow y).getD y.b.toNat 0 + 1) }
noncomputable def wsRun : List Nat → WS → WS
  | [], y => y
  | c :: r, y => if c = 32 then wsRun r (wsSp y) else if c = 9 then wsRun r (wsTab y) else y
noncomputable def wsOf (S : Str) : WS := wsRun S.cps.toList ⟨0, 0, 0, []⟩

noncomputable def wsEntries (P : Params) (S : Str) (tS : Tok) (y : WS) (tn tnt : Tok) (t1 t2 t3 t4 t5 : Tok) (T : Addr) : List DictEntry :=
  [⟨PyData.keyHash P (Str.ofString "raw"), .str (Str.ofString "raw") t1, .str S tS⟩,
   ⟨PyData.keyHash P (Str.ofString "n"), .str (Str.ofString "n") t2, .int y.n tn⟩,
   ⟨PyData.keyHash P (Str.ofString "nt"), .str (Str.ofString "nt") t3, .int y.nt tnt⟩,
   ⟨PyData.keyHash P (Str.ofString "norm"), .str (Str.ofString "norm") t4, .ref T⟩,
   ⟨PyData.keyHash P (Str.ofString "is_simple"), .str (Str.ofString "is_simple") t5, .bool (decide ((y.count.length : Int) ≤ 1))⟩]
/-- where an indentation's parts stand -/
structure WsQ where
  T : Addr
  D : Addr
  S : Str
  tS : Tok
  tn : Tok
  tnt : Tok
  tb : Tok
  t1 : Tok
  t2 : Tok
  t3 : Tok
  t4 : Tok
  t5 : Tok
  vs : List Value
/-- an indentation's object stands at x -/
noncomputable def WsIn (P : Params) (h : Heap) (x : Addr) (y : WS) : Prop :=
  ∃ (dx : Addr) (q : WsQ), h.get? x = some (instObj 83 dx) ∧ h.get? dx = some (dictOf (wsEntries P q.S q.tS y q.tn q.tnt q.t1 q.t2 q.t3 q.t4 q.t5 q.T) 5) ∧
    h.get? q.T = some (tupOf #[.ref q.D, .int y.b q.tb]) ∧ h.get? q.D = some (tupOf q.vs.toArray) ∧ IntsAre q.vs y.count

noncomputable def LeadEx (P : Params) (ex : List (Addr × Obj)) (v : Value) (y : WS) : Prop :=
  ∃ (x dx : Addr) (q : WsQ), v = .ref x ∧ (x, instObj 83 dx) ∈ ex ∧ (dx, dictOf (wsEntries P q.S q.tS y q.tn q.tnt q.t1 q.t2 q.t3 q.t4 q.t5 q.T) 5) ∈ ex ∧
    (q.T, tupOf #[.ref q.D, .int y.b q.tb]) ∈ ex ∧ (q.D, tupOf q.vs.toArray) ∈ ex ∧ IntsAre q.vs y.count

noncomputable def NewAt (as : List Addr) (h h' : Heap) (p : Addr × Obj) : Prop := h'.get? p.1 = some p.2 ∧ (p.1 ∈ as ∨ h.get? p.1 = none)
theorem newsOff {g h h' : Heap} {L : Addr} {p : Addr × Obj} {news : List (Addr × Obj)} {as : List Addr} (kg : ∀ h', g.StaysIn h' → StaysOff as h h') (N : News g L h' news) (hm : p ∈ news) : NewAt as h h' p := by
  refine ⟨(N p hm).1, ?_⟩
  by_cases ha : p.1 ∈ as
  · exact .inl ha
  · refine .inr ?_
    cases q : h.get? p.1 with
    | none => rfl
    | some o => have := kg g (fun _ _ e => e) p.1 o ha q; rw [(N p hm).2.2] at this; cases this

structure WSt where
  y : WS
  tn : Tok
  tb : Tok
  tnt : Tok
  D : Addr
  vs : List Value
  c : Nat

structure WSInv (S : Str) (i : Nat) (y : WS) : Prop where
  run : wsRun (S.cps.toList.drop i) y = wsOf S
  b0 : 0 ≤ y.b
  bi : y.b ≤ i
  len : y.count.length ≤ i

theorem flat_rep (k : Nat) : (List.replicate k [(0 : Int)]).flatten = List.replicate k 0 := by
  induction k with
  | zero => rfl
  | succ k ih => rw [List.replicate_succ, List.flatten_cons, ih]; rfl
theorem sign_eq {c d : Nat} (h : (⟨#[c]⟩ : Str) == (⟨#[d]⟩ : Str)) : c = d := by
  have := eq_of_beq h
  injection this with h
  injection h with h
  injection h
theorem sign_ne {c d : Nat} (h : ((⟨#[c]⟩ : Str) == (⟨#[d]⟩ : Str)) = false) : c ≠ d := by
  rintro rfl
  rw [beq_self_eq_true] at h; cases h
theorem blank_is : Str.ofString " " = ⟨#[32]⟩ := by decide
theorem tab_is : Str.ofString "\t" = ⟨#[9]⟩ := by decide
theorem ws_cons {S : Str} {i c : Nat} (hc : S.cps[i]? = some c) : S.cps.toList.drop i = c :: S.cps.toList.drop (i + 1) := by
  have h : S.cps.toList[i]? = some c := by rw [← hc]; simp
  obtain ⟨hi, e⟩ := List.getElem?_eq_some_iff.mp h
  rw [List.drop_eq_getElem_cons hi, e]
theorem WSInv.sp {S : Str} {i c : Nat} {y : WS} (h : WSInv S i y) (hc : S.cps[i]? = some c) (e : ((⟨#[c]⟩ : Str) == Str.ofString " ") = true) : WSInv S (i + 1) (wsSp y) := by
  rw [blank_is] at e
  have e := sign_eq e
  obtain ⟨h1, h2, h3, h4⟩ := h
  rw [ws_cons hc] at h1
  unfold wsRun at h1
  rw [if_pos e] at h1
  exact ⟨h1, by show 0 ≤ y.b + 1; omega, by show y.b + 1 ≤ _; omega, by show y.count.length ≤ _; omega⟩
theorem WSInv.tab {S : Str} {i c : Nat} {y : WS} (h : WSInv S i y) (hc : S.cps[i]? = some c) (e : ((⟨#[c]⟩ : Str) == Str.ofString "\t") = true) : WSInv S (i + 1) (wsTab y) := by
  rw [tab_is] at e
  have e := sign_eq e
  obtain ⟨h1, h2, h3, h4⟩ := h
  rw [ws_cons hc] at h1
  unfold wsRun at h1
  rw [if_neg (by omega), if_pos e] at h1
  refine ⟨h1, Int.le_refl _, by show (0 : Int) ≤ _; omega, ?_⟩
  show ((wsGrow y).set _ _).length ≤ _
  rw [List.length_set]
  unfold wsGrow
  split
  · rw [List.length_append, List.length_replicate]; omega
  · omega
theorem WSInv.off {S : Str} {i c : Nat} {y : WS} (h : WSInv S i y) (hc : S.cps[i]? = some c) (e1 : ((⟨#[c]⟩ : Str) == Str.ofString " ") = false) (e2 : ((⟨#[c]⟩ : Str) == Str.ofString "\t") = false) : y = wsOf S := by
  rw [blank_is] at e1
  rw [tab_is] at e2
  have e1 := sign_ne e1
  have e2 := sign_ne e2
  obtain ⟨h1, _, _, _⟩ := h
  rw [ws_cons hc] at h1
  unfold wsRun at h1
  rw [if_neg e1, if_neg e2] at h1
  exact h1
theorem WSInv.fin {S : Str} {y : WS} (h : WSInv S S.cps.size y) : y = wsOf S := by
  have h1 := h.run
  rw [List.drop_eq_nil_of_le (by simp)] at h1
  exact h1
theorem tab_grow {n b nt : Int} {count : List Int} (h : (count.length : Int) ≤ b) :
    wsTab ⟨n, b, nt, count⟩ = ⟨n + 1, 0, nt + 1, (count ++ (List.replicate (b - count.length + 1).toNat [(0 : Int)]).flatten).set b.toNat ((count ++ (List.replicate (b - count.length + 1).toNat [(0 : Int)]).flatten).getD b.toNat 0 + 1)⟩ := by
  unfold wsTab wsGrow
  rw [flat_rep]
  dsimp only
  rw [if_pos h]
theorem tab_keep {n b nt : Int} {count : List Int} (h : ¬ (count.length : Int) ≤ b) :
    wsTab ⟨n, b, nt, count⟩ = ⟨n + 1, 0, nt + 1, count.set b.toNat (count.getD b.toNat 0 + 1)⟩ := by
  unfold wsTab wsGrow
  dsimp only
  rw [if_neg h]

set_option maxHeartbeats 4000000 in
theorem init_spec {w : World} {dp un : Nat} {fr : Option (List Env)} {gd : Option (List Code)} {s : Shared} {h₀ : Heap} {p : Program} {loose : List Str} {mg mb : Str → Option Value} {R : Result → Shared → Prop}
    {x dx : Addr} {S : Str} {tS : Tok}
    (X : (hd.heap_39 w.params).In h₀) (T : TopRead p loose mg mb h₀) (k₀ : h₀.StaysIn s.heap) (hhid : ∀ p ∈ [(x, instObj 83 dx), (dx, dictOf [] 0)], s.heap.get? p.1 = some p.2 ∧ h₀.get? p.1 = none) (hne : x ≠ dx) (hroom : dp + 2 < recursionLimit) (hun : un + 20 < cLine)
    (hS : S.cps.size < 1000)
    (h : ∀ h' tk ex, StaysOff [x, dx] s.heap h' → LeadEx w.params ex (.ref x) (wsOf S) → (∀ p ∈ ex, NewAt [x, dx] s.heap h' p) → R (.ok (.ret .none)) { s with heap := h', toks := tk }) :
    codeAny (model PySem.Challenge.rw_sn0043_01.row.prog w) (ar dp un fr gd) (.call (.ref 38) ⟨[.ref x, .str S tS], []⟩) R s := by
  revert X
  k_fill
  intro X
  refine' codeN (binds := [(Str.ofString "self", .ref x), (Str.ofString "ws", .str S tS)]) X T k₀ hhid ?k3 ?k4 ?k5 ?k6 ?k7 ?_ ?c1 ?c2 ?c3 ?c4
  (case k3 => ktr_room)
  (case k4 => k_is)
  (case k5 => k_is)
  (case k7 => exact locs rfl)
  (case c1 => exact rfl)
  (case c2 => exact rfl)
  (case c3 => exact rfl)
  (case c4 => decide)
  (case k6 => exact BindsTo.of_eq rfl)
  intro g h₁ tk₁ kg kg₀ Xg Tg F N
  clear X T
  k_steps
  · constructor
    refine For_ov ?_
    k_steps
    constructor
    rename Fr _ _ _ _ => F
    rename News _ _ _ _ => N
    refine' iter_str1 (σ := WSt) rfl rfl rfl (fun y => [(Str.ofString "S", .str (Str.ofString " ") 209), (Str.ofString "T", .str (Str.ofString "\t") 210), (Str.ofString "self", .ref x), (Str.ofString "n", .int y.y.n y.tn), (Str.ofString "b", .int y.y.b y.tb), (Str.ofString "nt", .int y.y.nt y.tnt), (Str.ofString "count", .ref y.D)])
      (fun y => [(y.D, listOf y.vs.toArray y.c), (x, instObj 83 dx), (dx, dictOf [⟨PyData.keyHash w.params (Str.ofString "raw"), .str (Str.ofString "raw") (tk₁ + 1), .str S tS⟩] 1)])
      (fun i y => WSInv S i y.y ∧ IntsAre y.vs y.y.count ∧ x ≠ y.D ∧ dx ≠ y.D) (fun y => y.y = wsOf S ∧ IntsAre y.vs y.y.count ∧ y.y.count.length ≤ 1000 ∧ x ≠ y.D ∧ dx ≠ y.D) ⟨⟨0, 0, 0, []⟩, _, _, _, _, [], 0⟩ F ?hm ?N ?hP ?turn ?conv ?fin
    (case hm => walk_at "my names")
    (case N => exact cb_drop N (by walk_at "my sub"))
    (case hP => exact ⟨⟨rfl, Int.le_refl _, Int.le_refl _, Nat.le_refl _⟩, .nil, by k_ne, by k_ne⟩)
    (case turn =>
      clear F N
      rintro i c t ⟨⟨n, b, nt, count⟩, tn, tb, tnt, D, vs, cc⟩ u h₂ tk₂ own hc ⟨hW, hI, hx, hdx⟩ ho F N
      simp only [List.cons_append, List.nil_append] at N
      dsimp only [ov, List.map] at F N hW hI hx hdx ho ⊢
      refine turnQ fun Q0 hQ0 => ?_
      have hb0 := hW.b0
      have hbi := hW.bi
      have hlen := hW.len
      dsimp only at hb0 hbi hlen
      have hi : i < S.cps.size := by
        rcases Nat.lt_or_ge i S.cps.size with h | h
        · exact h
        · rw [Array.getElem?_eq_none h] at hc; cases hc
      refine' (let mm1 : Str → Option Value := _; ?_)
      rotate_left
      change Fr _ _ _ mm1 at F
      k_steps
      · refine hQ0 _ _ ?_; refine' StepF.next ⟨⟨_, _, _, count⟩, _, _, _, _, vs, cc⟩ (by assumption) ?hm ?N ho ?hP
        (case hm => walk_at "my names")
        (case N => rename News _ _ _ _ => N'; exact N')
        (case hP => exact ⟨hW.sp hc (by assumption), hI, hx, hdx⟩)
      · rename_i D' ws' h3 hI' l1 h4 t h5 hi' hl' hs' h' F' N'
        refine hQ0 _ _ ?_; refine' StepF.next ⟨wsTab ⟨n, b, nt, count⟩, _, _, _, _, _, _⟩ F' ?hm ?N ?ho ?hP
        (case hm => walk_at "my names")
        (case N => exact cb_drop N' (subO (by walk_at "my sub") (by walk_at "my own")))
        (case ho => exact ownOff_lt l1.2.2.2.2.2 (ownOff_tail ho))
        (case hP => 
          dsimp only
          refine ⟨hW.tab hc (by assumption), ?_, by k_ne, by k_ne⟩
          rw [tab_grow (by assumption)]
          exact hi')
      · rename_i hi' hl' hs' h' F' N'
        refine hQ0 _ _ ?_; refine' StepF.next ⟨wsTab ⟨n, b, nt, count⟩, _, _, _, _, _, _⟩ F' ?hm ?N ho ?hP
        (case hm => walk_at "my names")
        (case N => exact N')
        (case hP => 
          dsimp only
          refine ⟨hW.tab hc (by assumption), ?_, hx, hdx⟩
          rw [tab_keep (by assumption)]
          exact hi')
      · refine hQ0 _ _ ?_; refine' StepF.brk ⟨⟨n, b, nt, count⟩, tn, tb, tnt, D, vs, cc⟩ (by assumption) ?hm ?N ?hP
        (case hm => walk_at "my names")
        (case N => exact fun p hp => N p (List.mem_append_left own hp))
        (case hP => exact ⟨hW.off hc (by assumption) (by assumption), hI, by dsimp only; omega, hx, hdx⟩))
    (case conv => exact fun y h => ⟨h.1.fin, h.2.1, Nat.le_trans h.1.len (Nat.le_of_lt hS), h.2.2⟩)
    (case fin =>
      rintro ⟨y, tn, tb, tnt, D, vs, cc⟩ u h₂ tk₂ ⟨rfl, hI, hlen, hx, hdx⟩ F N
      dsimp only [ov] at hI hlen hx hdx F N ⊢
      generalize wsOf S = y at *
      obtain ⟨n, b, nt, count⟩ := y
      dsimp only at hI hlen F N
      replace hx := neN hx
      replace hdx := neN hdx
      replace hne := neN hne
      k_steps
      constructor
      clear F N
      rename Fr _ _ _ _ => F
      rename News _ _ _ _ => N
      refine tuple_N F N (PySem.IsL.isList (N _ (.head _)).1) (by have := hI.length; rw [sizeLine_eq]; show vs.length ≤ _; omega) ?_
      clear F N
      intro D₂ h₃ F N l1
      k_lt l1
      dsimp only at F N ⊢
      k_steps
      rename News _ _ _ _ => N
      exact h _ _ [_, _, _, _] (kg _ (Fr.keep (by assumption))) ⟨x, dx, ⟨_, D₂, _, _, _, _, _, _, _, _, _, _, _⟩, rfl, .head _, .tail _ (.head _), .tail _ (.tail _ (.head _)), .tail _ (.tail _ (.tail _ (.head _))), hI⟩
        (List.forall_mem_cons.mpr ⟨newsOff kg N (by k_mem), List.forall_mem_cons.mpr ⟨newsOff kg N (by k_mem), List.forall_mem_cons.mpr ⟨newsOff kg N (by k_mem), List.forall_mem_cons.mpr ⟨newsOff kg N (by k_mem), List.forall_mem_nil _⟩⟩⟩⟩))
end

section
open PySem PySem.W PyProof.Rows PySem.Calls
set_option maxRecDepth 100000
theorem instKeep {h h' : Heap} {x : Addr} {ox : Obj} {dx : Addr} {C : Addr} {od : Obj} (I : InstAt h x ox C (some od)) (hd : ox.dict = some dx) (k : h.StaysIn h') : InstAt h' x ox C (some od) := by
  obtain ⟨a, b, c, d⟩ := I
  rw [hd] at d
  exact ⟨k _ _ a, b, c, by rw [hd]; exact k _ _ d⟩
local macro_rules | `(tactic| k_inst) => `(tactic| exact instKeep (by assumption) rfl (Fr.keep (by assumption)))


section
variable {prog : Program} {w : World} {A : Around} {E : Value → Shared → Prop} {s : Shared} {h₀ : Heap} {L t : Addr} {m : Str → Option Value} {vs : List Value} {ns : List Int} {Q : Value → Shared → Prop}
theorem len_tupI (F : Fr h₀ L s.heap m) (ht : IsTup h₀ t vs.toArray) (hI : IntsAre vs ns) (hf : ns.length ≤ 1000) (h : Q (.int ns.length (s.toks + 1)) { s with toks := s.toks + 1 + 1 }) : wpAny (model prog w) A (call (.builtin "len") [.ref t]) Q E s := by
  have e : vs.toArray.size = ns.length := by simp [hI.length]
  exact len_tuple (IsTup.keeps ht F.keep) (by rw [e]; omega) (by rw [e]; exact h)
theorem item_tupI {value slice : PySem.Expr} {k : Int} {u : Tok} (F : Fr h₀ L s.heap m) (ht : IsTup h₀ t vs.toArray) (hI : IntsAre vs ns) (hf : ns.length ≤ 1000) (h0 : 0 ≤ k) (h1 : k < ns.length) (h : ∀ t, Q (.int (ns.getD k.toNat 0) t) s)
    (hs : subscripted slice false (.ref t) (.int k u) = operate [.ref t, .int k u] (getItem (.ref t) (.int k u))) :
    wpAny (model prog w) A (subscriptTail value slice (.ref t) (.int k u)) Q E s := by
  have hl := hI.length
  have hk : k.toNat < ns.length := by omega
  obtain ⟨t', e⟩ := hI.get k.toNat (ns.getD k.toNat 0) (by rw [List.getD_eq_getElem?_getD, List.getElem?_eq_getElem hk]; rfl)
  refine item_tupleT (j := k.toNat) (IsTup.keeps ht F.keep) (by omega) (by omega) ?_ e (h t') hs
  have e1 : (if k < 0 then k + (vs.length : Int) else k) = k := if_neg (by omega)
  simp only [seqIndex?, e1]
  rw [if_pos (by simp only [Bool.and_eq_true, decide_eq_true_eq]; omega)]
end
local macro_rules | `(tactic| walk_at "call builtin:len") => `(tactic| ((with_reducible show wpAny _ _ (call (Value.builtin "len") [Value.ref _]) _ _ _); refine' len_tupI ?k1 ?k2 ?k3 ?k4 ?_; (case k1 => assumption); (case k2 => assumption); (case k3 => assumption); (case k4 => assumption)))
local macro_rules | `(tactic| walk_at "subscriptTail Name Name ref int") => `(tactic| (refine' item_tupI ?k1 ?k2 ?k3 ?k4 ?k5 ?k6 ?_ ?k7; (case k1 => assumption); (case k2 => assumption); (case k3 => assumption); (case k4 => assumption); (case k5 => omega); (case k6 => omega); (case k7 => with_unfolding_all rfl); intro _))

noncomputable def wsLong (y : WS) : Int := if y.b > (y.count.length : Int) - 1 then y.b else (y.count.length : Int) - 1
set_option maxHeartbeats 4000000 in
theorem longest_spec {w : World} {dp un : Nat} {fr : Option (List Env)} {gd : Option (List Code)} {s : Shared} {p : Program} {loose : List Str} {mg mb : Str → Option Value} {Q E : Value → Shared → Prop}
    {x : Addr} {y : WS}
    (X : (hd.heap_39 w.params).In s.heap) (T : TopRead p loose mg mb s.heap) (hroom : dp + 1 < recursionLimit)
    (hW : WsIn w.params s.heap x y) (hlen : y.count.length ≤ 1000) (hb : 0 ≤ y.b ∧ y.b ≤ 1000)
    (h : ∀ t h' tk, s.heap.StaysIn h' → Q (.int (wsLong y) t) { s with heap := h', toks := tk }) :
    wpAny (model PySem.Challenge.rw_sn0043_01.row.prog w) (ar dp un fr gd) (call (.ref 45) [.ref x]) Q E s := by
  obtain ⟨n, b, nt, count⟩ := y
  obtain ⟨dx, ⟨T', D, S, tS, tn, tnt, tb, t1, t2, t3, t4, t5, vs⟩, hx, hdx, hT, hD, hI⟩ := hW
  dsimp only at hdx hT hD hI
  have I : InstAt s.heap x (instObj 83 dx) 83 (some (dictOf (wsEntries w.params S tS ⟨n, b, nt, count⟩ tn tnt t1 t2 t3 t4 t5 T') 5)) := ⟨hx, rfl, rfl, hdx⟩
  have hT' : IsTup s.heap T' #[.ref D, .int b tb] := ⟨_, hT, rfl, _, rfl⟩
  have hD' : IsTup s.heap D vs.toArray := ⟨_, hD, rfl, _, rfl⟩
  dsimp only at hI hlen hb h I
  revert X
  k_fill
  intro X
  refine' enterF (binds := [(Str.ofString "self", .ref x)]) ?k1 ?k2 ?k3 ?k4 ?k5 ?k6 ?k7 ?_ ?c1 ?c2 ?c3 ?c4
  walk_at "my enter"
  (case k6 => exact BindsTo.of_eq rfl)
  intro h₁ tk₁ F N
  k_steps
  rename Fr _ _ _ _ => F
  rename News _ _ _ _ => N
  exact h _ _ _ F.keep

noncomputable def ilRun (ts : Int) (cnt : List Int) : Nat → Int
  | 0 => 0
  | i + 1 => ilRun ts cnt i + (ts + (i : Int)).fdiv ts * cnt.getD (ts + (i : Int)).toNat 0
noncomputable def wsIndent (y : WS) (ts : Int) : Int := y.b + ts * (ilRun ts y.count ((y.count.length : Int) - ts).toNat + y.nt)

set_option maxHeartbeats 4000000 in
theorem indent_spec {w : World} {dp un : Nat} {fr : Option (List Env)} {gd : Option (List Code)} {s : Shared} {p : Program} {loose : List Str} {mg mb : Str → Option Value} {Q E : Value → Shared → Prop}
    {x : Addr} {y : WS} {ts : Int} {tt : Tok}
    (X : (hd.heap_39 w.params).In s.heap) (T : TopRead p loose mg mb s.heap) (hroom : dp + 1 < recursionLimit)
    (hW : WsIn w.params s.heap x y) (hlen : y.count.length ≤ 1000) (hts : 2 ≤ ts ∧ ts ≤ 2000)
    (h : ∀ t h' tk, s.heap.StaysIn h' → Q (.int (wsIndent y ts) t) { s with heap := h', toks := tk }) :
    wpAny (model PySem.Challenge.rw_sn0043_01.row.prog w) (ar dp un fr gd) (call (.ref 52) [.ref x, .int ts tt]) Q E s := by
  obtain ⟨n, b, nt, count⟩ := y
  obtain ⟨dx, ⟨T', D, S, tS, tn, tnt, tb, t1, t2, t3, t4, t5, vs⟩, hx, hdx, hT, hD, hI⟩ := hW
  dsimp only at hdx hT hD hI
  have I : InstAt s.heap x (instObj 83 dx) 83 (some (dictOf (wsEntries w.params S tS ⟨n, b, nt, count⟩ tn tnt t1 t2 t3 t4 t5 T') 5)) := ⟨hx, rfl, rfl, hdx⟩
  have hT' : IsTup s.heap T' #[.ref D, .int b tb] := ⟨_, hT, rfl, _, rfl⟩
  have hD' : IsTup s.heap D vs.toArray := ⟨_, hD, rfl, _, rfl⟩
  dsimp only at hI hlen h I
  obtain ⟨hts1, hts2⟩ := hts
  revert X
  k_fill
  intro X
  refine' enterF (binds := [(Str.ofString "self", .ref x), (Str.ofString "tabsize", .int ts tt)]) ?k1 ?k2 ?k3 ?k4 ?k5 ?k6 ?k7 ?_ ?c1 ?c2 ?c3 ?c4
  walk_at "my enter"
  (case k6 => exact BindsTo.of_eq rfl)
  intro h₁ tk₁ F N
  k_steps
  constructor
  refine For_ov ?_
  k_steps
  constructor
  rename Fr _ _ _ _ => F
  rename News _ _ _ _ => N
  rename IsRange _ _ _ _ _ _ _ _ => hR
  refine' iter_range1 (σ := Int × Tok) rfl hR ⟨by omega, by omega, by omega, by omega⟩ rfl rfl (fun y => [(Str.ofString "self", .ref x), (Str.ofString "tabsize", .int ts tt), (Str.ofString "count", .ref D), (Str.ofString "trailing", .int b tb), (Str.ofString "il", .int y.1 y.2)])
    (fun _ => []) (fun i y => y.1 = ilRun ts count i) (fun y => y.1 = ilRun ts count ((count.length : Int) - ts).toNat) (0, _) F ?hm N ?hP ?turn (fun _ h => h) ?fin
  (case hm => walk_at "my names")
  (case hP => rfl)
  (case turn =>
    clear F N hR
    rintro i t ⟨il, tl⟩ u h₂ tk₂ own hi e ho F N
    dsimp only at e
    subst e
    simp only [List.nil_append] at N
    dsimp only [ov] at F N ⊢
    refine turnQ fun Q0 hQ0 => ?_
    have hq : Builtin.Int.intBits ((ts + (i : Int)).fdiv ts) ≤ 64 := by
      rw [Int.fdiv_eq_ediv_of_nonneg _ (by omega)]
      have a := Int.ediv_nonneg (a := ts + (i : Int)) (b := ts) (by omega) (by omega)
      have b := Int.ediv_le_self (a := ts + (i : Int)) ts (by omega)
      exact PySem.intBits_le_64 (by omega) (by omega)
    k_steps
    rename Fr _ _ _ _ => F
    rename News _ _ _ _ => N
    refine hQ0 _ _ ?_; refine' StepF.next (ilRun ts count (i + 1), _) F ?hm N ho rfl
    (case hm => walk_at "my names"))
  (case fin =>
    clear F N hR
    rintro ⟨il, tl⟩ u h₂ tk₂ e F N
    dsimp only at e
    dsimp only [ov] at F N ⊢
    subst e
    k_steps
    exact h _ _ _ (Fr.keep (by assumption)))
end

section
open PySem PySem.W PyProof.Rows PySem.Calls
set_option maxRecDepth 100000
local macro_rules | `(tactic| k_inst) => `(tactic| exact instKeep (by assumption) rfl (Fr.keep (by assumption)))
theorem wsKeeps {P : Params} {h h' : Heap} {x : Addr} {y : WS} (W : WsIn P h x y) (k : h.StaysIn h') : WsIn P h' x y := by
  obtain ⟨dx, q, hx, hdx, hT, hD, hI⟩ := W
  exact ⟨dx, q, k _ _ hx, k _ _ hdx, k _ _ hT, k _ _ hD, hI⟩

local macro_rules | `(tactic| walk_at "my after") => `(tactic| (
  intro t9 h9 tk9 st9
  (rename Fr _ _ _ _ => F9); (rename News _ _ _ _ => N9)
  (have F8 := frStays F9 st9); (have N8 := newsStays N9 st9)
  clear F9 N9 st9
  dsimp only at F8 N8 ⊢))
local macro_rules | `(tactic| walk_at "call ref") => `(tactic| (
  show wpAny _ _ (call (Value.ref 45) [_] []) _ _ _
  refine' longest_spec ?k1 ?k2 ?k3 ?k4 ?k5 ?k6 ?_; (case k1 => first | assumption | exact Frag.In.keeps (by assumption) (Fr.keep (by assumption))); (case k2 => exact TopRead.keeps (by assumption) (Fr.keep (by assumption))); (case k4 => exact wsKeeps (by assumption) (Fr.keep (by assumption))); (case k3 => ktr_room); (case k5 => assumption); (case k6 => assumption); walk_at "my after"))
local macro_rules | `(tactic| walk_at "call ref") => `(tactic| (
  show wpAny _ _ (call (Value.ref 52) [_, _] []) _ _ _
  refine' indent_spec ?k1 ?k2 ?k3 ?k4 ?k5 ?k6 ?_; (case k1 => first | assumption | exact Frag.In.keeps (by assumption) (Fr.keep (by assumption))); (case k2 => exact TopRead.keeps (by assumption) (Fr.keep (by assumption))); (case k4 => exact wsKeeps (by assumption) (Fr.keep (by assumption))); (case k3 => ktr_room); (case k5 => assumption); (case k6 => omega); walk_at "my after"))

noncomputable def wsMax (a b : WS) : Int := if wsLong b > wsLong a then wsLong b else wsLong a
noncomputable def wsUpTo (a b : WS) (k : Nat) : Prop := ∀ j : Nat, j < k → wsIndent a (2 + (j : Int)) < wsIndent b (2 + (j : Int))
/-- what less answers -/
noncomputable def WsLess (a b : WS) (r : Bool) : Prop :=
  if b.n ≤ a.n then r = false
  else if (a.count.length : Int) ≤ 1 ∧ (b.count.length : Int) ≤ 1 then r = decide (a.nt ≤ b.nt)
  else (r = true ∧ wsUpTo a b (wsMax a b + 1 + 1 - 2).toNat) ∨ (r = false ∧ ∃ j : Nat, j < (wsMax a b + 1 + 1 - 2).toNat ∧ wsIndent b (2 + (j : Int)) ≤ wsIndent a (2 + (j : Int)))

set_option maxHeartbeats 4000000 in
theorem less_spec {w : World} {dp un : Nat} {fr : Option (List Env)} {gd : Option (List Code)} {s : Shared} {p : Program} {loose : List Str} {mg mb : Str → Option Value} {Q E : Value → Shared → Prop}
    {x x' : Addr} {y y' : WS}
    (X : (hd.heap_39 w.params).In s.heap) (T : TopRead p loose mg mb s.heap) (hroom : dp + 2 < recursionLimit)
    (hW : WsIn w.params s.heap x y) (hlen : y.count.length ≤ 1000) (hb : 0 ≤ y.b ∧ y.b ≤ 1000)
    (hW' : WsIn w.params s.heap x' y') (hlen' : y'.count.length ≤ 1000) (hb' : 0 ≤ y'.b ∧ y'.b ≤ 1000)
    (h : ∀ r h' tk, s.heap.StaysIn h' → WsLess y y' r → Q (.bool r) { s with heap := h', toks := tk }) :
    wpAny (model PySem.Challenge.rw_sn0043_01.row.prog w) (ar dp un fr gd) (call (.ref 73) [.ref x, .ref x']) Q E s := by
  obtain ⟨dx, ⟨T', D, S, tS, tn, tnt, tb, t1, t2, t3, t4, t5, vs⟩, hx, hdx, hT, hD, hI⟩ := id hW
  dsimp only at hdx hT hD hI
  obtain ⟨dx', ⟨T'', D', S', tS', tn', tnt', tb', t1', t2', t3', t4', t5', vs'⟩, hx', hdx', hT', hD', hI'⟩ := id hW'
  dsimp only at hdx' hT' hD' hI'
  have I : InstAt s.heap x (instObj 83 dx) 83 (some (dictOf (wsEntries w.params S tS y tn tnt t1 t2 t3 t4 t5 T') 5)) := ⟨hx, rfl, rfl, hdx⟩
  have I' : InstAt s.heap x' (instObj 83 dx') 83 (some (dictOf (wsEntries w.params S' tS' y' tn' tnt' t1' t2' t3' t4' t5' T'') 5)) := ⟨hx', rfl, rfl, hdx'⟩
  clear hx hdx hT hD hI hx' hdx' hT' hD' hI'
  revert X
  k_fill
  intro X
  refine' enterF (binds := [(Str.ofString "self", .ref x), (Str.ofString "other", .ref x')]) ?k1 ?k2 ?k3 ?k4 ?k5 ?k6 ?k7 ?_ ?c1 ?c2 ?c3 ?c4
  walk_at "my enter"
  (case k6 => exact BindsTo.of_eq rfl)
  intro h₁ tk₁ F N
  have hm1 : wsLong y ≤ 1000 := by unfold wsLong; split <;> omega
  have hm2 : wsLong y' ≤ 1000 := by unfold wsLong; split <;> omega
  have hm3 : 0 ≤ wsLong y := by unfold wsLong; split <;> omega
  have hm4 : 0 ≤ wsLong y' := by unfold wsLong; split <;> omega
  have hmx : 0 ≤ wsMax y y' ∧ wsMax y y' ≤ 1000 := by unfold wsMax; split <;> omega
  k_steps
  · refine h _ _ _ (Fr.keep (by assumption)) ?_
    unfold WsLess
    rw [if_pos (by omega)]
  · refine h _ _ _ (Fr.keep (by assumption)) ?_
    unfold WsLess
    rw [if_neg (by omega), if_pos (by omega)]
  all_goals (
    have hno : ¬ y'.n ≤ y.n := by omega
    have hns : ¬ ((y.count.length : Int) ≤ 1 ∧ (y'.count.length : Int) ≤ 1) := by omega
    constructor
    refine For_ov ?_
    rename_i F0 N0
    revert F0
    show Fr _ _ _ (fun y_1 => if y_1 = Str.ofString "n" then some (Value.int (wsMax y y' + 1) _) else _) → _
    intro F0
    k_steps
    constructor
    skip
    rename Fr _ _ _ _ => F
    rename News _ _ _ _ => N
    rename IsRange _ _ _ _ _ _ _ _ => hR
    refine' iter_range1 (σ := Unit) rfl hR ⟨by omega, by omega, by omega, by omega⟩ rfl rfl (fun y => [(Str.ofString "self", .ref x), (Str.ofString "other", .ref x')])
      (fun _ => []) (fun i _ => wsUpTo y y' i) (fun _ => wsUpTo y y' (wsMax y y' + 1 + 1 - 2).toNat) () F ?hm N ?hP ?turn (fun _ h => h) ?fin
    (case hm => walk_at "my names")
    (case hP => exact fun j hj => absurd hj (Nat.not_lt_zero _))
    (case turn =>
      clear F N hR
      rintro i t _ u h₂ tk₂ own hi hup ho F N
      simp only [List.nil_append] at N
      dsimp only [ov] at F N ⊢
      refine turnQ fun Q0 hQ0 => ?_
      refine' (let mm2 : Str → Option Value := _; ?_)
      rotate_left
      change Fr _ _ _ mm2 at F
      k_steps
      · refine hQ0 _ _ ?_; refine h _ _ _ (Fr.keep (by assumption)) ?_
        unfold WsLess
        rw [if_neg hno, if_neg hns]
        exact .inr ⟨rfl, i, by omega, by assumption⟩
      · refine hQ0 _ _ ?_; refine' StepF.next () (by assumption) ?hm (by assumption) ho ?hP
        (case hm => walk_at "my names")
        (case hP =>
          intro j hj
          rcases Nat.lt_or_ge j i with hji | hji
          · exact hup j hji
          · obtain rfl : j = i := by omega
            exact Int.not_le.mp (by assumption)))
    (case fin =>
      clear F N hR
      rintro _ u h₂ tk₂ e F N
      dsimp only [ov] at F N ⊢
      k_steps
      refine h _ _ _ (Fr.keep (by assumption)) ?_
      unfold WsLess
      rw [if_neg hno, if_neg hns]
      exact .inl ⟨rfl, e⟩))
end

section
open PySem PySem.W PyProof.Rows PySem.Calls PySem.SeqAt
set_option maxRecDepth 100000
section
variable {prog : Program} {w : World} {A : Around} {E : Value → Shared → Prop} {s : Shared} {h₀ : Heap} {L : Addr} {news : List (Addr × Obj)}
theorem index_N {l : Addr} {vs : List Value} {n : Nat} {ns : List Int} {k : Int} {t : Tok} {Q : Value → Shared → Prop} (N : News h₀ L s.heap news) (hm : (l, listOf vs.toArray n) ∈ news) (hI : IntsAre vs ns)
    (hz : ns.length ≤ 1000) (hk : k ∈ ns) (h : ∀ t, Q (.int (ns.idxOf k : Nat) t) { s with toks := s.toks + 1 }) :
    wpAny (model prog w) A (call (.builtin "list.index") [.ref l, .int k t]) Q E s := by
  have ho := (N _ hm).1
  have hl := hI.length
  have hj : ns.idxOf k < ns.length := List.idxOf_lt_length_iff.mpr hk
  refine call_meets PySem.F.slot_list_index ⟨_, ho, rfl⟩ PySem.F.entry_list_index (PySem.F.args_list_index_2 _ _)
    (list_indexAt l vs.toArray n none #[] (.int k t) (isInt k) (ns.idxOf k) (by simpa [hl] using hj) (by omega) ?_ ?_) ⟨ho, fun y hy => (eq_isInt k t hI y (by simpa using hy)).at _ _, h _⟩
  · have e := isInt_at k hI (ns.idxOf k) (by omega) hj
    rw [List.getElem_idxOf hj] at e
    simpa using e
  · intro j hjs hlt
    have e := isInt_at k hI j (by simpa using hjs) (by omega)
    rw [ne_of_lt_idxOf hlt _] at e
    exact e
end
section
variable {prog : Program} {w : World} {A : Around} {E : Value → Shared → Prop} {s : Shared} {h₀ : Heap} {L : Addr} {news : List (Addr × Obj)}
theorem getD_last {l : List Int} (h : l ≠ []) : l[l.length - 1]? = some (l.getLastD 0) := by
  rw [← List.getLast?_eq_getElem?, List.getLastD_eq_getLast?]
  cases e : l.getLast? with
  | none => exact absurd (List.getLast?_eq_none_iff.mp e) h
  | some x => rfl
theorem last_N {value slice : PySem.Expr} {l : Addr} {vs : List Value} {n : Nat} {ns : List Int} {u : Tok} {Q : Value → Shared → Prop} (N : News h₀ L s.heap news) (hm : (l, listOf vs.toArray n) ∈ news) (hI : IntsAre vs ns)
    (hne : ns ≠ []) (hz : ns.length ≤ 1000) (h : ∀ t, Q (.int (ns.getLastD 0) t) s)
    (hs : subscripted slice false (.ref l) (.int (-1) u) = operate [.ref l, .int (-1) u] (getItem (.ref l) (.int (-1) u))) (hg : ∀ r, letTemporaryGo value (.ref l) r = pure ()) :
    wpAny (model prog w) A (subscriptTail value slice (.ref l) (.int (-1) u)) Q E s := by
  have hl := hI.length
  have h0 : 0 < ns.length := List.length_pos_iff.mpr hne
  obtain ⟨t', e⟩ := hI.get (ns.length - 1) (ns.getLastD 0) (getD_last hne)
  refine kim_back (lo := listOf vs.toArray n) N hm rfl rfl (by decide) (by omega) (by decide) ?_ (h t') hs hg
  rw [show ((-1 : Int) + (vs.length : Int)).toNat = ns.length - 1 by omega]
  exact e
end
/-- the exchange of two places -/
noncomputable def exch (p : List Int) (i j : Int) : List Int := (p.set i.toNat (p.getD j.toNat 0)).set j.toNat (p.getD i.toNat 0)
noncomputable def risesAt (p q : List Int) (i : Int) : Bool := decide (p.getD i.toNat 0 < p.getD (i + 1).toNat 0) && decide ((q.idxOf (p.getD (i + 1).toNat 0) : Int) < (q.idxOf (p.getD i.toNat 0) : Int))
noncomputable def places : List Int := rangeZ 0 4
noncomputable def rises (p q : List Int) : List Int := places.filter (risesAt p q)
noncomputable def becRun (q : List Int) : Nat → List Int → List Int
  | 0, p => p
  | k + 1, p => if rises p q = [] then p else becRun q k (exch p ((rises p q).getLastD 0) ((rises p q).getLastD 0 + 1))

noncomputable def pOf (f : Int → Bool) : Value → Bool
  | .int i _ => f i
  | _ => false
theorem ints_filter {f : Int → Bool} : ∀ {vs : List Value} {ns : List Int}, IntsAre vs ns → IntsAre (vs.filter (pOf f)) (ns.filter f)
  | _, _, .nil => .nil
  | _, _, .cons n t r => by
    have ih := ints_filter (f := f) r
    cases h : f n with
    | true =>
      rw [List.filter_cons_of_pos (by exact h), List.filter_cons_of_pos h]
      exact .cons n t ih
    | false =>
      rw [List.filter_cons_of_neg (by rw [show pOf f (.int n t) = f n from rfl, h]; decide), List.filter_cons_of_neg (by rw [h]; decide)]
      exact ih
theorem paired_eq : ∀ {us ws : List Value}, Paired (fun v u => u = v) us ws → ws = us
  | _, _, .nil => rfl
  | _, _, .cons e r => by rw [e, paired_eq r]

theorem getD_mem {l : List Int} {k : Nat} (h : k < l.length) : l.getD k 0 ∈ l := by
  rw [List.getD_eq_getElem?_getD, List.getElem?_eq_getElem h]
  exact List.getElem_mem h
theorem exch_length (p : List Int) (i j : Int) : (exch p i j).length = p.length := by simp [exch]
theorem exch_mem {p : List Int} {i j : Int} (hi : i.toNat < p.length) (hj : j.toNat < p.length) {x : Int} (h : x ∈ exch p i j) : x ∈ p := by
  unfold exch at h
  rcases List.mem_or_eq_of_mem_set h with h | h
  · rcases List.mem_or_eq_of_mem_set h with h | h
    · exact h
    · rw [h]; exact getD_mem hj
  · rw [h]; exact getD_mem hi
structure Two where
  o1 : Obj
  D : Addr
  vs : List Value
  c : Nat
  p : List Int
end

section
open PySem PySem.W PyProof.Rows PySem.Calls
set_option maxRecDepth 100000
noncomputable def lawNames : List Str := [Str.ofString "OPTIMIZED", Str.ofString "NEWLOCALS", Str.ofString "VARARGS", Str.ofString "VARKEYWORDS", Str.ofString "NESTED", Str.ofString "GENERATOR", Str.ofString "NOFREE", Str.ofString "COROUTINE", Str.ofString "ITERABLE_COROUTINE", Str.ofString "ASYNC_GENERATOR"]
noncomputable def wordAt (z : Int) : Str := if z < 10 then lawNames.getD z.toNat Str.empty else Str.ofString "0x" ++ Txt.item (Str.ofString "1248") (z.fmod 4) ++ Txt.mul (Str.ofString "0") (z.fdiv 4)
noncomputable def bitAt (flags : Int) (i : Nat) : Bool := decide (Builtin.bitAnd (flags.fdiv (2 ^ i)) 1 = 1)
noncomputable def lawWords (flags base : Int) : Nat → List Str
  | 0 => []
  | i + 1 => lawWords flags base i ++ (if bitAt flags i then [wordAt (base + (i : Int))] else [])
noncomputable def Few (n : Nat) (ss : List Str) : Prop := ss.length ≤ n ∧ ∀ x ∈ ss, x.length ≤ 40
theorem Few.sum : ∀ {ss : List Str}, (∀ x ∈ ss, x.length ≤ 40) → (ss.map (·.length)).sum ≤ 40 * ss.length
  | [], _ => Nat.le_refl _
  | x :: r, h => by
    have := Few.sum (ss := r) fun y hy => h y (.tail _ hy)
    have := h x (.head _)
    simp only [List.map_cons, List.sum_cons, List.length_cons]
    omega
theorem join_few {n : Nat} {ss : List Str} {sep : Str} (h : Few n ss) (hn : n ≤ 1000) (hs : sep.length ≤ 4) : (ss.map (·.length)).sum + ss.length * sep.length ≤ 16777216 := by
  have h1 := Few.sum h.2
  have h2 := h.1
  have h3 : ss.length * sep.length ≤ ss.length * 4 := Nat.mul_le_mul_left _ hs
  omega
theorem few_join {n : Nat} {ss : List Str} {sep : Str} (h : Few n ss) (hn : n ≤ 1000) (hs : sep.length ≤ 4) : (Txt.join sep ss).length ≤ 16777216 := by
  show (Builtin.Str.glued sep ss).length ≤ _
  rw [StrLaws.glued_eq_join]
  exact Nat.le_trans (StrLaws.join_length_le sep ss) (join_few h hn hs)
theorem len_ne_zero {x : Str} : ((x.length : Int) != 0) = true ↔ x ≠ Str.empty := by
  obtain ⟨⟨l⟩⟩ := x
  cases l with
  | nil => simp [Str.length, Str.empty]
  | cons a r =>
    simp only [Str.length, Str.empty]
    constructor
    · intro _ h
      injection h with h
      cases h
    · intro _
      simp
      omega
theorem truthyS {prog : Program} {w : World} {A : Around} {E : Value → Shared → Prop} {s : Shared} {x : Str} {t : Tok} {Q : Bool → Shared → Prop} (hz : x.length < 2 ^ 63) (h0 : x = Str.empty → Q false { s with toks := s.toks + 1 + 1 }) (h1 : x ≠ Str.empty → Q true { s with toks := s.toks + 1 + 1 }) :
    wpAny (model prog w) A (truthy (.str x t)) Q E s := by
  refine SBL.truthy (by omega) ?_
  by_cases hJ0 : x = Str.empty
  · have hc : ((x.length : Int) != 0) = false := by
      cases e : ((x.length : Int) != 0) with
      | false => rfl
      | true => exact absurd hJ0 (len_ne_zero.mp e)
    rw [hc]; exact h0 hJ0
  · rw [len_ne_zero.mpr hJ0]; exact h1 hJ0
theorem Few.snoc {n : Nat} {ss : List Str} {x : Str} (h : Few n ss) (hx : x.length ≤ 40) : Few (n + 1) (ss ++ [x]) := by
  refine ⟨by rw [List.length_append]; have := h.1; simp; omega, fun y hy => ?_⟩
  rcases List.mem_append.mp hy with hy | hy
  · exact h.2 y hy
  · rw [List.mem_singleton.mp hy]; exact hx
theorem Few.up {n : Nat} {ss : List Str} (h : Few n ss) : Few (n + 1) ss := ⟨Nat.le_succ_of_le h.1, h.2⟩
theorem strsSnoc {x : Str} {t : Tok} : ∀ {vs : List Value} {ss : List Str}, StrsAre vs ss → StrsAre (vs ++ [.str x t]) (ss ++ [x])
  | _, _, .nil => .cons x t .nil
  | _, _, .cons y u r => .cons y u (strsSnoc r)
theorem strsGet : ∀ {vs : List Value} {ss : List Str}, StrsAre vs ss → ∀ k : Nat, k < ss.length → ∃ t, vs[k]? = some (.str (ss.getD k Str.empty) t)
  | _, _, .cons y t _, 0, _ => ⟨t, rfl⟩
  | _, _, .cons _ _ r, k + 1, h => by
    obtain ⟨t, e⟩ := strsGet r k (Nat.lt_of_succ_lt_succ h)
    exact ⟨t, by simpa using e⟩
theorem strsLen : ∀ {vs : List Value} {ss : List Str}, StrsAre vs ss → vs.length = ss.length
  | _, _, .nil => rfl
  | _, _, .cons _ _ r => congrArg (· + 1) (strsLen r)
theorem item_strsN {prog : Program} {w : World} {A : Around} {E : Value → Shared → Prop} {s : Shared} {h₀ : Heap} {L : Addr} {news : List (Addr × Obj)} {value slice : PySem.Expr} {l : Addr} {vs : List Value} {n : Nat} {ss : List Str} {k : Int} {u : Tok} {Q : Value → Shared → Prop}
    (N : News h₀ L s.heap news) (hm : (l, listOf vs.toArray n) ∈ news) (hI : StrsAre vs ss) (h0 : 0 ≤ k) (h1 : k < ss.length) (hz : ss.length ≤ 1000) (h : ∀ t, Q (.str (ss.getD k.toNat Str.empty) t) s)
    (hs : subscripted slice false (.ref l) (.int k u) = operate [.ref l, .int k u] (getItem (.ref l) (.int k u))) (hg : ∀ r, letTemporaryGo value (.ref l) r = pure ()) :
    wpAny (model prog w) A (subscriptTail value slice (.ref l) (.int k u)) Q E s := by
  obtain ⟨t', e⟩ := strsGet hI k.toNat (by omega)
  exact kim_list (lo := listOf vs.toArray n) N hm rfl rfl h0 (by omega) e (h t') hs hg
noncomputable def lawText (flags base : Int) : Str := let J := Txt.join (Str.ofString ", ") (lawWords flags base 10); if J = Str.empty then Str.ofString "0x0" else J
theorem lawText_nil {f b : Int} (h : Txt.join (Str.ofString ", ") (lawWords f b 10) = Str.empty) : lawText f b = Str.ofString "0x0" := by
  unfold lawText
  generalize Txt.join (Str.ofString ", ") (lawWords f b 10) = J at *
  rw [h]; rfl
theorem lawText_some {f b : Int} (h : Txt.join (Str.ofString ", ") (lawWords f b 10) ≠ Str.empty) : lawText f b = Txt.join (Str.ofString ", ") (lawWords f b 10) := by
  unfold lawText
  generalize Txt.join (Str.ofString ", ") (lawWords f b 10) = J at *
  exact if_neg h
theorem wordAt_len : ∀ i : Fin 32, (wordAt ((i : Nat) : Int)).length ≤ 40 := by decide +kernel
theorem wordAt_few {z : Int} (h0 : 0 ≤ z) (h1 : z < 32) : (wordAt z).length ≤ 40 := by
  have := wordAt_len ⟨z.toNat, by omega⟩
  rwa [show (((⟨z.toNat, by omega⟩ : Fin 32) : Nat) : Int) = z from Int.toNat_of_nonneg h0] at this

structure Wds where
  D : Addr
  vs : List Value
  c : Nat
  ss : List Str
end

local macro_rules | `(tactic| walk_at "call ref") => `(tactic| refine Hold.out ?_)
local macro_rules | `(tactic| walk_at "my list") => `(tactic| first | assumption | exact stays_list (Fr.keep (by assumption)) (by assumption) | exact PySem.IsL.isList (News.get (by assumption) (by k_mem)))
local macro_rules | `(tactic| walk_at "my after") => `(tactic| (
  (rename Fr _ _ _ _ => F9); (rename News _ _ _ _ => N9)
  (have F8 := frStays F9 (by assumption)); (have N8 := newsStays N9 (by assumption))
  clear F9 N9
  dsimp only at F8 N8 ⊢))
local macro_rules | `(tactic| walk_at "my fresh") => `(tactic| (
  (rename Fr _ _ _ _ => F9); (rename News _ _ _ _ => N9)
  (have e9 := newsNe (by assumption) N9)
  (have F8 := frStays F9 (by assumption)); (have N8 := newsMore F9 (newsStays N9 (by assumption)) (by assumption) (by assumption))
  clear F9 N9
  simp only [AllNe, and_true] at e9
  dsimp only at F8 N8 e9 ⊢))
local macro_rules | `(tactic| walk_at "eval Name") => `(tactic| (
  k_dflt (
  (show wpAny _ _ (eval (.Name _ _) (compEnvC _ _ _ _)) _ _ _);
  first
  | (refine' nameCL ?F ?v ?_ ?a ?b ?c; (case F => assumption); (case a => exact rfl); (case b => exact rfl); (case c => decide); (case v => exact rfl))
  | (refine' nameCC ?N ?c ?m ?d ?_ ?a ?b ?e; (case N => assumption); (case a => exact rfl); (case b => exact rfl); (case e => decide); (case c => exact rfl); (case m => k_mem); (case d => assumption)))))
local macro_rules | `(tactic| walk_at "call builtin:list.index") => `(tactic| (
  (with_reducible show wpAny _ _ (call (Value.builtin _) [Value.ref _, Value.int _ _]) _ _ _);
  k_dflt (refine' index_N ?N ?m ?I ?z ?k ?_; (case N => assumption); (case m => k_mem); (case I => assumption); (case z => omega); (case k => assumption)); intro _))
local macro_rules | `(tactic| walk_at "compareOp Eq ref ref") => `(tactic| (
  (with_reducible show wpAny _ _ (compareOp CmpOp.Eq (Value.ref _) (Value.ref _)) _ _ _);
  k_dflt (refine' eq_intsK ?k1 ?k2 ?k3 ?k4 ?k5 ?_; (case k1 => walk_at "my list"); (case k2 => first | assumption | exact IntsAre.nil); (case k3 => walk_at "my list"); (case k4 => first | assumption | exact IntsAre.nil); (case k5 => ktr_units))))
local macro_rules | `(tactic| walk_at "exec Assign cons ListComp") => `(tactic| refine Hold.out ?_)
local macro_rules | `(tactic| walk_at "subscriptTail Name UnaryOp ref int") => `(tactic| (
  k_dflt (refine' last_N ?N ?m ?I ?ne ?z ?_ ?hs ?hg; (case N => assumption); (case m => k_mem); (case I => assumption); (case ne => assumption); (case z => omega); (case hs => with_unfolding_all rfl); (case hg => intro _; with_unfolding_all rfl)); intro _))
local macro_rules | `(tactic| walk_at "call ref") => `(tactic| (
  k_dflt (
  (show wpAny _ _ (call (Value.ref 136) [_, _, _] []) _ _ _);
  refine' exchanged_spec ?k1 ?k2 ?k3 ?k4 ?k5 ?k6 ?k7 ?k8 ?_; (case k1 => first | assumption | exact Frag.In.keeps (by assumption) (Fr.keep (by assumption))); (case k2 => exact TopRead.keeps (by assumption) (Fr.keep (by assumption))); (case k3 => ktr_room); (case k4 => walk_at "my list"); (case k5 => assumption); (case k6 => omega); (case k7 => omega); (case k8 => omega));
  intro r9 h9 tk9 ws9 n9 st9 hr9 ho9 hI9;
  walk_at "my fresh"))
local macro_rules | `(tactic| walk_at "execs cons Assign cons") => `(tactic| refine wpAny_execs_cons ?_)
local macro_rules | `(tactic| walk_at "subscriptTail Name Name ref int") => `(tactic| (
  k_dflt (refine' item_strsN ?N ?m ?I ?a ?b ?z ?_ ?hs ?hg; (case N => assumption); (case m => k_mem); (case I => assumption); (case a => omega); (case b => simp only [lawNames, List.length_cons, List.length_nil]; omega); (case z => decide); (case hs => with_unfolding_all rfl); (case hg => intro _; with_unfolding_all rfl)); intro _))
local macro_rules | `(tactic| walk_at "call builtin:str.join") => `(tactic| (
  k_dflt (refine' join_list ?l ?I ?z ?_; (case l => walk_at "my list"); (case I => assumption); (case z => exact join_few (by assumption) (by omega) (by decide))); intro _ _))
local macro_rules | `(tactic| walk_at "truthy str") => `(tactic| refine Hold.out ?_)

section
open PySem PySem.W PyProof.Rows PySem.Calls PySem.SeqAt
set_option maxRecDepth 100000
set_option maxHeartbeats 4000000 in
theorem becomes_spec {w : World} {dp un : Nat} {fr : Option (List Env)} {gd : Option (List Code)} {s : Shared} {h₀ : Heap} {pg : Program} {loose : List Str} {mg mb : Str → Option Value} {Q E : Value → Shared → Prop}
    {l₁ l₂ : Addr} {vs₁ vs₂ : List Value} {n₁ n₂ : Nat} {p q : List Int}
    (X : (hd.heap_39 w.params).In h₀) (T : TopRead pg loose mg mb h₀) (k₀ : h₀.StaysIn s.heap) (hhid : ∀ p ∈ [(l₁, listOf vs₁.toArray n₁), (l₂, listOf vs₂.toArray n₂)], s.heap.get? p.1 = some p.2 ∧ h₀.get? p.1 = none)
    (hroom : dp + 2 < recursionLimit) (hun : un + 100 < cLine)
    (hI₁ : IntsAre vs₁ p) (hI₂ : IntsAre vs₂ q) (hp : p.length = 5) (hq : q.length = 5) (hpq : ∀ x ∈ p, x ∈ q)
    (h : ∀ h' tk, s.heap.StaysIn h' → Q (.bool (decide (becRun q 10 p = q))) { s with heap := h', toks := tk }) :
    wpAny (model PySem.Challenge.rw_sn0043_01.row.prog w) (ar dp un fr gd) (call (.ref 146) [.ref l₁, .ref l₂]) Q E s := by
  refine wpAny_call ?_
  revert X
  k_fill
  intro X
  refine' codeNC (binds := [(Str.ofString "first", .ref l₁), (Str.ofString "second", .ref l₂)]) X T k₀ hhid ?k3 ?k4 ?k5 ?k6 ?k7 ?k8 ?_ ?c1 ?c2 ?c3
  (case k3 => ktr_room)
  (case k4 => k_is)
  (case k5 => k_is)
  (case k6 => exact BindsTo.of_eq rfl)
  (case k7 => exact rfl)
  (case k8 => decide +kernel)
  (case c1 => exact rfl)
  (case c2 => exact rfl)
  (case c3 => exact rfl)
  intro g h₁ tk₁ cells kg kg₀ Xg Tg hlt F N Y
  k_cells Y
  simp only [List.cons_append, List.nil_append] at N
  clear X T
  k_lt hlt
  rename_i o2 o1 d2 d1
  replace d1 : o1.data = .cell (some (.ref l₁)) := d1
  replace d2 : o2.data = .cell (some (.ref l₂)) := d2
  k_steps
  constructor
  refine For_ov ?_
  k_steps
  constructor
  rename Fr _ _ _ _ => F
  rename News _ _ _ _ => N
  rename IsRange _ _ _ _ _ _ _ _ => hR
  refine' iter_range1 (σ := Two) rfl hR ⟨by decide, by decide, by decide, by decide⟩ rfl rfl (fun y => [])
    (fun y => [(s.heap.objs.size + 1 + 1, o2), (s.heap.objs.size + 1, y.o1), (y.D, listOf y.vs.toArray y.c), (l₁, listOf vs₁.toArray n₁), (l₂, listOf vs₂.toArray n₂)])
    (fun i y => becRun q (10 - i) y.p = becRun q 10 p ∧ y.o1.data = .cell (some (.ref y.D)) ∧ IntsAre y.vs y.p ∧ y.p.length = 5 ∧ (∀ x ∈ y.p, x ∈ q) ∧ @Ne Nat y.D (s.heap.objs.size + 1))
    (fun y => y.p = becRun q 10 p ∧ y.o1.data = .cell (some (.ref y.D)) ∧ IntsAre y.vs y.p ∧ y.p.length = 5) ⟨o1, l₁, vs₁, n₁, p⟩ F ?hm ?N ?hP ?turn ?conv ?fin
  (case hm => walk_at "my names")
  (case N => exact cb_drop N (by walk_at "my sub"))
  (case hP => exact ⟨rfl, d1, hI₁, hp, hpq, by dsimp only; omega⟩)
  (case conv => exact fun y h => ⟨h.1, h.2.1, h.2.2.1, h.2.2.2.1⟩)
  (case turn =>
    clear F N hR d1
    rintro i t ⟨o1, D, vs, c, p'⟩ u h₂ tk₂ own hi ⟨hrun, d1, hI, hl, hin, hne⟩ ho F N
    simp only [List.cons_append, List.nil_append] at N
    dsimp only [ov, List.map] at F N hrun d1 hI hl hin hne ho ⊢
    refine turnQ fun Q0 hQ0 => ?_
    refine' (let mm3 : Str → Option Value := _; ?_)
    rotate_left
    change Fr _ _ _ mm3 at F
    k_steps
    constructor
    rename Fr _ _ _ _ => F
    rename News _ _ _ _ => N
    refine' AssignComp_ov (pOf (risesAt p' q)) (fun v u => u = v) rfl rfl ?h1 rfl ?h2 rfl rfl rfl ?_
    (case h1 => decide)
    (case h2 => decide)
    k_steps
    constructor
    rename Fr _ _ _ _ => F
    rename News _ _ _ _ => N
    rename IsRange _ _ _ _ _ _ _ _ => hR
    refine' compA_range rfl hR ⟨by decide, by decide, by decide, by decide⟩ (by decide) F N ?test ?elt ?fin2
    (case test =>
      clear F N hR
      intro j t hj C u s₃ F N
      generalize hz : (0 : Int) + (j : Int) = z at *
      have hz1 : 0 ≤ z ∧ z < 4 := by omega
      have hz2 : p'.getD z.toNat 0 ∈ q := hin _ (getD_mem (by omega))
      have hz3 : p'.getD (z + 1).toNat 0 ∈ q := hin _ (getD_mem (by omega))
      k_steps
      all_goals first
        | exact ⟨_, _, rfl, fun _ _ e => e⟩
        | (symm; simp only [pOf, risesAt, Bool.and_eq_true, decide_eq_true_eq]; omega)
        | (symm; simp only [pOf, risesAt, Bool.and_eq_false_iff, decide_eq_false_iff_not]; omega))
    (case elt =>
      clear F N hR
      intro j t hj _ C u s₃ F N
      k_steps
      all_goals first | exact ⟨_, _, rfl, fun _ _ e => e⟩ | rfl)
    (case fin2 =>
      clear F N hR
      intro R h₃ tk₃ nR ws us hU hPr hne F N
      have hw := paired_eq hPr
      subst hw
      have hR := ints_filter (f := risesAt p' q) hU
      replace hR : IntsAre (us.filter (pOf (risesAt p' q))) (rises p' q) := hR
      clear hPr hU
      simp only [AllNe] at hne
      generalize us.filter (pOf (risesAt p' q)) = ws at *
      have hmem : ∀ x ∈ rises p' q, 0 ≤ x ∧ x < 4 := fun x hx => by
        have := (List.mem_filter.mp hx).1
        simp only [places, rangeZ, List.mem_map, List.mem_range] at this
        obtain ⟨a, ha, rfl⟩ := this
        omega
      have hlr : (rises p' q).length ≤ 4 := List.length_filter_le _ _
      have hla : rises p' q ≠ [] → 0 ≤ (rises p' q).getLastD 0 ∧ (rises p' q).getLastD 0 < 4 := fun h => hmem _ (List.mem_of_getElem? (getD_last h))
      have hstep : becRun q (10 - i) p' = if rises p' q = [] then p' else becRun q (10 - (i + 1)) (exch p' ((rises p' q).getLastD 0) ((rises p' q).getLastD 0 + 1)) := by
        rw [show 10 - i = (10 - (i + 1)) + 1 by omega]
        rfl
      rw [hrun] at hstep
      by_cases hr0 : rises p' q = []
      · rw [if_pos hr0] at hstep
        rw [hr0] at hR
        k_steps
        refine hQ0 _ _ ?_; refine' StepF.brk ⟨o1, D, vs, c, p'⟩ (by assumption) ?hm ?N ?hP
        (case hm => walk_at "my names")
        (case N => exact cb_drop (by assumption) (by walk_at "my sub"))
        (case hP => exact ⟨hstep.symm, d1, hI, hl⟩)
      rw [if_neg hr0] at hstep
      obtain ⟨hla1, hla2⟩ := hla hr0
      k_steps
      rename IntsAre _ _ => hI9
      rename Obj.data _ = _ => d9
      rename (_ ∧ _) => e9
      rename Fr _ _ _ _ => F9
      rename News _ _ _ _ => N9
      refine hQ0 _ _ ?_; refine' StepF.next ⟨_, _, _, _, exch p' ((rises p' q).getLastD 0) ((rises p' q).getLastD 0 + 1)⟩ F9 ?hm ?N ?ho ?hP
      (case hm => walk_at "my names")
      (case N => exact cb_drop N9 (subO (by walk_at "my sub") (by walk_at "my own")))
      (case ho =>
        intro a ha b hb
        simp only [List.map_cons, List.map_nil, List.mem_cons, List.not_mem_nil, or_false] at hb
        rcases hb with rfl | rfl | rfl | rfl | rfl
        · exact ho a ha _ (by k_memK)
        · exact ho a ha _ (by k_memK)
        · exact allNe_mem e9.2.2.2.2.2.2.2 a ha
        · exact ho a ha _ (by k_memK)
        · exact ho a ha _ (by k_memK))
      (case hP =>
        dsimp only
        refine ⟨hstep.symm, d9, hI9, by rw [exch_length]; exact hl, fun x hx => hin x (exch_mem (by omega) (by omega) hx), fun e => e9.2.2.2.1 e.symm⟩)))
  (case fin =>
    clear F N hR d1
    rintro ⟨o1, D, vs, c, p'⟩ u h₂ tk₂ ⟨rfl, d1, hI, hl⟩ F N
    dsimp only [ov] at F N d1 hI hl ⊢
    k_steps
    rename Fr _ _ _ _ => F9
    rename News _ _ _ _ => N9
    exact h _ _ (stays_hid (kg _ F9.keep) hhid (cb_drop N9 (by walk_at "my sub"))))
end

section
open PySem PySem.W PyProof.Rows PySem.Calls
set_option maxRecDepth 100000
local macro_rules | `(tactic| walk_at "my pad") => `(tactic| skip)
noncomputable def fallsAt (q : List Int) (i : Int) : Bool := decide (q.getD (i + 1).toNat 0 < q.getD i.toNat 0)
noncomputable def falls (q : List Int) : List Int := places.filter (fallsAt q)
noncomputable def fallOf (turn : Int) (i : Nat) (q : List Int) : Int := (falls q).getD ((turn + (0 + (i : Int))).fmod ((falls q).length : Int)).toNat 0
noncomputable def follow (p : List Int) (f : Int) : List Int := if p.getD (f + 1).toNat 0 < p.getD f.toNat 0 then exch p f (f + 1) else p
noncomputable def besRun (turn : Int) : Nat → Nat → List Int → List Int → List Int
  | 0, _, p, _ => p
  | k + 1, i, p, q => if falls q = [] then p else besRun turn k (i + 1) (follow p (fallOf turn i q)) (exch q (fallOf turn i q) (fallOf turn i q + 1))

structure Bes where
  o2 : Obj
  D1 : Addr
  D2 : Addr
  vs1 : List Value
  vs2 : List Value
  c1 : Nat
  c2 : Nat
  p : List Int
  q : List Int

set_option maxHeartbeats 4000000 in
theorem beside_spec {w : World} {dp un : Nat} {fr : Option (List Env)} {gd : Option (List Code)} {s : Shared} {h₀ : Heap} {pg : Program} {loose : List Str} {mg mb : Str → Option Value} {Q E : Value → Shared → Prop}
    {l₁ l₂ : Addr} {vs₁ vs₂ : List Value} {n₁ n₂ : Nat} {p q : List Int} {turn : Int} {tt : Tok}
    (X : (hd.heap_39 w.params).In h₀) (T : TopRead pg loose mg mb h₀) (k₀ : h₀.StaysIn s.heap) (hhid : ∀ p ∈ [(l₁, listOf vs₁.toArray n₁), (l₂, listOf vs₂.toArray n₂)], s.heap.get? p.1 = some p.2 ∧ h₀.get? p.1 = none)
    (hroom : dp + 2 < recursionLimit) (hun : un + 100 < cLine)
    (hI₁ : IntsAre vs₁ p) (hI₂ : IntsAre vs₂ q) (hp : p.length = 5) (hq : q.length = 5)
    (h : ∀ h' tk, s.heap.StaysIn h' → Q (.bool (decide (besRun turn 10 0 p q = [0, 1, 2, 3, 4]))) { s with heap := h', toks := tk }) :
    wpAny (model PySem.Challenge.rw_sn0043_01.row.prog w) (ar dp un fr gd) (call (.ref 151) [.ref l₁, .ref l₂, .int turn tt]) Q E s := by
  refine wpAny_call ?_
  revert X
  k_fill
  intro X
  refine' codeNC (binds := [(Str.ofString "first", .ref l₁), (Str.ofString "second", .ref l₂), (Str.ofString "turn", .int turn tt)]) X T k₀ hhid ?k3 ?k4 ?k5 ?k6 ?k7 ?k8 ?_ ?c1 ?c2 ?c3
  (case k3 => ktr_room)
  (case k4 => k_is)
  (case k5 => k_is)
  (case k6 => exact BindsTo.of_eq rfl)
  (case k7 => exact rfl)
  (case k8 => decide +kernel)
  (case c1 => exact rfl)
  (case c2 => exact rfl)
  (case c3 => exact rfl)
  intro g h₁ tk₁ cells kg kg₀ Xg Tg hlt F N Y
  k_cells Y
  simp only [List.cons_append, List.nil_append] at N
  clear X T
  k_lt hlt
  rename_i o2 d2
  replace d2 : o2.data = .cell (some (.ref l₂)) := d2
  k_steps
  constructor
  refine For_ov ?_
  k_steps
  constructor
  rename Fr _ _ _ _ => F
  rename News _ _ _ _ => N
  rename IsRange _ _ _ _ _ _ _ _ => hR
  refine' iter_range1 (σ := Bes) rfl hR ⟨by decide, by decide, by decide, by decide⟩ rfl rfl (fun y => [(Str.ofString "first", .ref y.D1), (Str.ofString "turn", .int turn tt)])
    (fun y => [(s.heap.objs.size + 1, y.o2), (y.D1, listOf y.vs1.toArray y.c1), (y.D2, listOf y.vs2.toArray y.c2), (l₁, listOf vs₁.toArray n₁), (l₂, listOf vs₂.toArray n₂)])
    (fun i y => besRun turn (10 - i) i y.p y.q = besRun turn 10 0 p q ∧ y.o2.data = .cell (some (.ref y.D2)) ∧ IntsAre y.vs1 y.p ∧ IntsAre y.vs2 y.q ∧ y.p.length = 5 ∧ y.q.length = 5 ∧ @Ne Nat y.D1 (s.heap.objs.size + 1) ∧ @Ne Nat y.D2 (s.heap.objs.size + 1))
    (fun y => y.p = besRun turn 10 0 p q ∧ IntsAre y.vs1 y.p ∧ y.p.length = 5) ⟨o2, l₁, l₂, vs₁, vs₂, n₁, n₂, p, q⟩ F ?hm ?N ?hP ?turn ?conv ?fin
  (case hm => walk_at "my names")
  (case N => exact cb_drop N (by walk_at "my sub"))
  (case hP => exact ⟨rfl, d2, hI₁, hI₂, hp, hq, by dsimp only; omega, by dsimp only; omega⟩)
  (case conv => exact fun y h => ⟨h.1, h.2.2.1, h.2.2.2.2.1⟩)
  (case turn =>
    clear F N hR d2
    rintro i t ⟨o2, D1, D2, vs1, vs2, c1, c2, p', q'⟩ u h₂ tk₂ own hi ⟨hrun, d2, hI1, hI2, hl1, hl2, hne1, hne2⟩ ho F N
    simp only [List.cons_append, List.nil_append] at N
    dsimp only [ov, List.map] at F N hrun d2 hI1 hI2 hl1 hl2 hne1 hne2 ho ⊢
    refine turnQ fun Q0 hQ0 => ?_
    refine' (let mm4 : Str → Option Value := _; ?_)
    rotate_left
    change Fr _ _ _ mm4 at F
    k_steps
    constructor
    rename Fr _ _ _ _ => F
    rename News _ _ _ _ => N
    refine' AssignComp_ov (pOf (fallsAt q')) (fun v u => u = v) rfl rfl ?h1 rfl ?h2 rfl rfl rfl ?_
    (case h1 => decide)
    (case h2 => decide)
    k_steps
    constructor
    rename Fr _ _ _ _ => F
    rename News _ _ _ _ => N
    rename IsRange _ _ _ _ _ _ _ _ => hR
    refine' compA_range rfl hR ⟨by decide, by decide, by decide, by decide⟩ (by decide) F N ?test ?elt ?fin2
    (case test =>
      clear F N hR
      intro j t hj C u s₃ F N
      generalize hz : (0 : Int) + (j : Int) = z at *
      have hz1 : 0 ≤ z ∧ z < 4 := by omega
      k_steps
      all_goals first
        | exact ⟨_, _, rfl, fun _ _ e => e⟩
        | (symm; simp only [pOf, fallsAt, decide_eq_true_eq]; omega)
        | (symm; simp only [pOf, fallsAt, decide_eq_false_iff_not]; omega))
    (case elt =>
      clear F N hR
      intro j t hj _ C u s₃ F N
      k_steps
      all_goals first | exact ⟨_, _, rfl, fun _ _ e => e⟩ | rfl)
    (case fin2 =>
      clear F N hR
      intro R h₃ tk₃ nR ws us hU hPr hne F N
      have hw := paired_eq hPr
      subst hw
      have hR := ints_filter (f := fallsAt q') hU
      replace hR : IntsAre (us.filter (pOf (fallsAt q'))) (falls q') := hR
      clear hPr hU
      simp only [AllNe] at hne
      generalize us.filter (pOf (fallsAt q')) = ws at *
      have hmem : ∀ x ∈ falls q', 0 ≤ x ∧ x < 4 := fun x hx => by
        have := (List.mem_filter.mp hx).1
        simp only [places, rangeZ, List.mem_map, List.mem_range] at this
        obtain ⟨a, ha, rfl⟩ := this
        omega
      have hlr : (falls q').length ≤ 4 := List.length_filter_le _ _
      have hstep : besRun turn (10 - i) i p' q' = if falls q' = [] then p' else besRun turn (10 - (i + 1)) (i + 1) (follow p' (fallOf turn i q')) (exch q' (fallOf turn i q') (fallOf turn i q' + 1)) := by
        rw [show 10 - i = (10 - (i + 1)) + 1 by omega]
        rfl
      rw [hrun] at hstep
      by_cases hr0 : falls q' = []
      · rw [if_pos hr0] at hstep
        rw [hr0] at hR
        k_steps
        refine hQ0 _ _ ?_; refine' StepF.brk ⟨o2, D1, D2, vs1, vs2, c1, c2, p', q'⟩ (by assumption) ?hm ?N ?hP
        (case hm => walk_at "my names")
        (case N => exact cb_drop (by assumption) (by walk_at "my sub"))
        (case hP => exact ⟨hstep.symm, hI1, hl1⟩)
      rw [if_neg hr0] at hstep
      have hl0 : 0 < (falls q').length := List.length_pos_iff.mpr hr0
      have hm1 := Int.fmod_nonneg_of_pos (turn + (0 + (i : Int))) (b := ((falls q').length : Int)) (by omega)
      have hm2 := Int.fmod_lt_of_pos (turn + (0 + (i : Int))) (b := ((falls q').length : Int)) (by omega)
      have hm3 := hmem _ (getD_mem (l := falls q') (k := ((turn + (0 + (i : Int))).fmod ((falls q').length : Int)).toNat) (by omega))
      obtain ⟨hm3, hm4⟩ := hm3
      k_steps
      · have hf : follow p' (fallOf turn i q') = exch p' (fallOf turn i q') (fallOf turn i q' + 1) := if_pos (by assumption)
        rename IntsAre _ (List.set (List.set p' _ _) _ _) => hIp
        rename IntsAre _ (List.set (List.set q' _ _) _ _) => hIq
        rename Obj.data _ = _ => d9
        rename (_ ∧ _) => e9
        have a1 := e9.2.2.2.1
        have a2 := e9.2.2.2.2.2.2.2.2
        clear e9
        rename (_ ∧ _) => e9
        have b1 := e9.2.2.1
        have b2 := e9.2.2.2.2.2.2.2
        clear e9
        rename Fr _ _ _ _ => F9
        rename News _ _ _ _ => N9
        refine hQ0 _ _ ?_; refine' StepF.next ⟨_, _, _, _, _, _, _, follow p' (fallOf turn i q'), exch q' (fallOf turn i q') (fallOf turn i q' + 1)⟩ F9 ?hm ?N ?ho ?hP
        (case hm => walk_at "my names")
        (case hP =>
          dsimp only
          refine ⟨hstep.symm, ?_, ?_, ?_, by rw [hf, exch_length]; exact hl1, by rw [exch_length]; exact hl2, ?_, ?_⟩
          · exact d9
          · rw [hf]; exact hIp
          · exact hIq
          · exact fun e => a1 e.symm
          · exact fun e => b1 e.symm)
        (case N => exact cb_drop N9 (subO (by walk_at "my sub") (by walk_at "my own")))
        (case ho =>
          intro a ha b hb
          simp only [List.map_cons, List.map_nil, List.mem_cons, List.not_mem_nil, or_false] at hb
          rcases hb with rfl | rfl | rfl | rfl | rfl
          · exact ho a ha _ (by k_memK)
          · exact allNe_mem a2 a ha
          · exact allNe_mem b2 a ha
          · exact ho a ha _ (by k_memK)
          · exact ho a ha _ (by k_memK))
      · have hf : follow p' (fallOf turn i q') = p' := if_neg (by assumption)
        rename IntsAre _ (List.set (List.set q' _ _) _ _) => hIq
        rename Obj.data _ = _ => d9
        rename (_ ∧ _) => e9
        have b1 := e9.2.2.1
        have b2 := e9.2.2.2.2.2.2.2
        clear e9
        rename Fr _ _ _ _ => F9
        rename News _ _ _ _ => N9
        refine hQ0 _ _ ?_; refine' StepF.next ⟨_, _, _, vs1, _, c1, _, follow p' (fallOf turn i q'), exch q' (fallOf turn i q') (fallOf turn i q' + 1)⟩ F9 ?hm ?N ?ho ?hP
        (case hm => walk_at "my names")
        (case hP =>
          dsimp only
          refine ⟨hstep.symm, ?_, by rw [hf]; exact hI1, ?_, by rw [hf]; exact hl1, by rw [exch_length]; exact hl2, hne1, ?_⟩
          · exact d9
          · exact hIq
          · exact fun e => b1 e.symm)
        (case N => exact cb_drop N9 (subO (by walk_at "my sub") (by walk_at "my own")))
        (case ho =>
          intro a ha b hb
          simp only [List.map_cons, List.map_nil, List.mem_cons, List.not_mem_nil, or_false] at hb
          rcases hb with rfl | rfl | rfl | rfl | rfl
          · exact ho a ha _ (by k_memK)
          · exact ho a ha _ (by k_memK)
          · exact allNe_mem b2 a ha
          · exact ho a ha _ (by k_memK)
          · exact ho a ha _ (by k_memK))))
  (case fin =>
    clear F N hR d2
    rintro ⟨o2, D1, D2, vs1, vs2, c1, c2, p', q'⟩ u h₂ tk₂ ⟨rfl, hI, hl⟩ F N
    dsimp only [ov] at F N hI hl ⊢
    k_steps
    rename Fr _ _ _ _ => F9
    rename News _ _ _ _ => N9
    exact h _ _ (stays_hid (kg _ F9.keep) hhid (cb_drop N9 (by walk_at "my sub"))))
end

section
open PySem PySem.W PyProof.Rows PySem.Calls
set_option maxRecDepth 100000
set_option maxHeartbeats 4000000 in
theorem law_text_spec {w : World} {dp un : Nat} {fr : Option (List Env)} {gd : Option (List Code)} {s : Shared} {p : Program} {loose : List Str} {mg mb : Str → Option Value} {Q E : Value → Shared → Prop}
    {flags base : Int} {tf tb : Tok}
    (X : (hd.heap_39 w.params).In s.heap) (T : TopRead p loose mg mb s.heap) (hroom : dp + 1 < recursionLimit) (hun : un + 100 < cLine)
    (hf : 0 ≤ flags ∧ flags < 1024) (hb : 0 ≤ base ∧ base ≤ 22)
    (h : ∀ t h' tk, s.heap.StaysIn h' → Q (.str (lawText flags base) t) { s with heap := h', toks := tk }) :
    wpAny (model PySem.Challenge.rw_sn0043_01.row.prog w) (ar dp un fr gd) (call (.ref 129) [.int flags tf, .int base tb]) Q E s := by
  revert X
  k_fill
  intro X
  refine' enterF (binds := [(Str.ofString "flags", .int flags tf), (Str.ofString "base", .int base tb)]) ?k1 ?k2 ?k3 ?k4 ?k5 ?k6 ?k7 ?_ ?c1 ?c2 ?c3 ?c4
  (case k1 => k_asm)
  (case k2 => k_asm)
  (case k3 => ktr_room)
  (case k4 => k_is)
  (case k5 => k_is)
  (case k6 => exact BindsTo.of_eq rfl)
  (case k7 => exact locs rfl)
  (case c1 => exact rfl)
  (case c2 => exact rfl)
  (case c3 => exact rfl)
  (case c4 => decide)
  intro h₁ tk₁ F N
  k_steps
  constructor
  refine For_ov ?_
  k_steps
  constructor
  rename Fr _ _ _ _ => F
  rename News _ _ _ _ => N
  rename IsRange _ _ _ _ _ _ _ _ => hR
  rename_i lN _ _ _ lW _ _ _ _ _ hh _ _ _ _ _
  obtain ⟨nv, N', hns⟩ : ∃ nv : List Value, News s.heap s.heap.objs.size hh [(lW, listOf #[] 0), (lN, listOf nv.toArray 0)] ∧ StrsAre nv lawNames := ⟨_, N, by unfold lawNames; repeat constructor⟩
  refine' iter_range1 (σ := Wds) rfl hR ⟨by omega, by omega, by omega, by omega⟩ rfl rfl (fun y => [(Str.ofString "flags", .int flags tf), (Str.ofString "base", .int base tb), (Str.ofString "words", .ref y.D), (Str.ofString "names", .ref lN)])
    (fun y => [(y.D, listOf y.vs.toArray y.c), (lN, listOf nv.toArray 0)])
    (fun i y => y.ss = lawWords flags base i ∧ StrsAre y.vs y.ss ∧ Few i y.ss ∧ @Ne Nat y.D lN) (fun y => y.ss = lawWords flags base 10 ∧ StrsAre y.vs y.ss ∧ Few 10 y.ss) ⟨_, [], 0, []⟩ F ?hm N' ?hP ?turn ?conv ?fin
  (case hm => walk_at "my names")
  (case hP => exact ⟨rfl, .nil, ⟨Nat.le_refl _, fun _ h => nomatch h⟩, by dsimp only; omega⟩)
  (case conv => 
    intro y h
    rw [show (base + 10 - base).toNat = 10 by omega] at h
    exact ⟨h.1, h.2.1, h.2.2.1⟩)
  (case turn =>
    clear F N N' hR
    rintro i t ⟨D, vs, c, ss⟩ u h₂ tk₂ own hi ⟨rfl, hS, hFew, hne⟩ ho F N
    simp only [List.cons_append, List.nil_append] at N
    dsimp only [ov, List.map] at F N hS hFew hne ho ⊢
    refine turnQ fun Q0 hQ0 => ?_
    have hz0 : (base + (i : Int) - base).toNat = i := by omega
    generalize hz : base + (i : Int) = z at *
    have hz1 : 0 ≤ z ∧ z < 32 := by omega
    have hz2 : 0 ≤ z - base ∧ z - base < 10 := by omega
    have hz3 : 0 ≤ z.fdiv 4 ∧ z.fdiv 4 ≤ 7 := by
      rw [Int.fdiv_eq_ediv_of_nonneg _ (by decide)]; omega
    have hv1 := strsLen hS
    have hv2 := hFew.1
    refine' (let mm5 : Str → Option Value := _; ?_)
    rotate_left
    change Fr _ _ _ mm5 at F
    k_steps
    · rename Fr _ _ _ _ => F9
      rename News _ _ _ _ => N9
      have hw : wordAt z = lawNames.getD z.toNat Str.empty := if_pos (by assumption)
      have hb : bitAt flags i = true := by
        unfold bitAt
        rw [← hz0]
        exact decide_eq_true (by assumption)
      refine hQ0 _ _ ?_; refine' StepF.next ⟨D, _, _, lawWords flags base i ++ [wordAt z]⟩ F9 ?hm ?N ho ?hP
      (case hm => walk_at "my names")
      (case N => exact N9)
      (case hP =>
        dsimp only
        refine ⟨?_, ?_, hFew.snoc (wordAt_few hz1.1 hz1.2), hne⟩
        · rw [lawWords, if_pos hb, hz]
        · rw [hw, List.concat_eq_append]; exact strsSnoc hS)
    · rename Fr _ _ _ _ => F9
      rename News _ _ _ _ => N9
      have hw : wordAt z = Str.ofString "0x" ++ Txt.item (Str.ofString "1248") (z.fmod 4) ++ Txt.mul (Str.ofString "0") (z.fdiv 4) := if_neg (by assumption)
      have hb : bitAt flags i = true := by
        unfold bitAt
        rw [← hz0]
        exact decide_eq_true (by assumption)
      refine hQ0 _ _ ?_; refine' StepF.next ⟨D, _, _, lawWords flags base i ++ [wordAt z]⟩ F9 ?hm ?N ho ?hP
      (case hm => walk_at "my names")
      (case N => exact N9)
      (case hP =>
        dsimp only
        refine ⟨?_, ?_, hFew.snoc (wordAt_few hz1.1 hz1.2), hne⟩
        · rw [lawWords, if_pos hb, hz]
        · rw [hw, List.concat_eq_append]; exact strsSnoc hS)
    · have hb : bitAt flags i = false := by
        unfold bitAt
        rw [← hz0]
        exact decide_eq_false (by assumption)
      refine hQ0 _ _ ?_; refine' StepF.next ⟨D, vs, c, lawWords flags base i⟩ (by assumption) ?hm ?N ho ?hP
      (case hm => walk_at "my names")
      (case N => exact N)
      (case hP =>
        dsimp only
        refine ⟨?_, hS, hFew.up, hne⟩
        rw [lawWords, hb]; simp))
  (case fin =>
    clear F N N' hR
    rintro ⟨D, vs, c, ss⟩ u h₂ tk₂ ⟨rfl, hS, hFew⟩ F N
    dsimp only [ov] at F N hS hFew ⊢
    have hJ := few_join hFew (by decide) (sep := Str.ofString ", ") (by decide)
    k_steps
    constructor
    refine truthyS (by omega) (fun hJ0 => ?_) fun hJ0 => ?_
    · simp only [Bool.false_eq_true, if_false]
      k_steps
      have e := lawText_nil hJ0
      rw [e] at h
      exact h _ _ _ (Fr.keep (by assumption))
    · simp only [if_true]
      have e := lawText_some hJ0
      rw [e] at h
      exact h _ _ _ (Fr.keep (by assumption)))
end

section
open PySem PySem.W PyProof.Rows PySem.Calls PyProof.V
set_option maxRecDepth 100000
theorem hexWord : ∀ i : Fin 32, 10 ≤ i.val → wordAt ((i : Nat) : Int) = baseText "0x" 16 (1 * 2 ^ (i : Nat)) := by decide +kernel
noncomputable def flagD : List (Int × PyData) := (List.range 10).map fun (i : Nat) => (((2 ^ i : Nat) : Int), .str (lawNames.getD i Str.empty))
noncomputable def isText (d : PyData) (s : Str) : Bool := match d with | .str t => decide (t = s) | _ => false
theorem isText_eq {d : PyData} {s : Str} (h : isText d s = true) : d = .str s := by
  cases d <;> first | (simp only [isText, decide_eq_true_eq] at h; rw [h]) | (simp [isText] at h)
theorem flagName_is : ∀ i : Fin 32, isText ((KTD.datumAt (1 * 2 ^ (i : Nat)) flagD).getD (.str (baseText "0x" 16 (1 * 2 ^ (i : Nat))))) (wordAt ((i : Nat) : Int)) = true := by decide +kernel
theorem flagSize : ∀ i : Fin 32, (wordAt ((i : Nat) : Int)).length ≤ 40 ∧ (baseText "0x" 16 (1 * 2 ^ (i : Nat))).length ≤ sizeLine := by decide +kernel
theorem flagKeyed {h : Heap} (K : KTD.Keyed h 115 flagD) {h' : Heap} (hk : ∀ b o, h.get? b = some o → h'.get? b = some o) {prog : Program} {w : World} {A : Around} {E : Value → Shared → Prop} {s : Shared} {i : Nat} {tk t1 : Tok} {Q : Value → Shared → Prop}
    (hi : i < 32) (e : s.heap = h') (H : ∀ t, Q (.str (wordAt (i : Int)) t) { s with toks := s.toks + 1 }) :
    wpAny (model prog w) A (call (.builtin "dict.get") [.ref 115, .int (1 * 2 ^ i) tk, .str (baseText "0x" 16 (1 * 2 ^ i)) t1]) Q E s := by
  subst e
  refine call_get2_intTab ((K.keep hk) prog w) (Flat.str _ _) fun v hv => ?_
  rw [KTD.lookup_keyed, isText_eq (flagName_is ⟨i, hi⟩)] at hv
  obtain ⟨t, rfl⟩ := hv.str_inv
  exact H t
noncomputable def pWords (n : Nat) : Nat → List Str
  | 0 => []
  | i + 1 => pWords n i ++ (if n.testBit i then [wordAt (i : Int)] else [])
noncomputable def pRest (n i : Nat) : Nat := 2 ^ i * (n / 2 ^ i)
noncomputable def prettyText (n : Nat) : Str := if n = 0 then Str.ofString "0x0" else Txt.join (Str.ofString ", ") (pWords n 32)
theorem pRest_zero (n : Nat) : pRest n 0 = n := by simp [pRest]
theorem pRest_and (n i : Nat) : Builtin.bitAnd ((pRest n i : Nat) : Int) (1 * 2 ^ i) = if n.testBit i then 2 ^ i else 0 := by
  have e : (1 * 2 ^ i : Int) = ((2 ^ i : Nat) : Int) := by push_cast; omega
  rw [e]
  unfold Builtin.bitAnd
  simp only [Int.natCast_nonneg, decide_true, Int.toNat_natCast]
  have : (pRest n i).testBit i = n.testBit i := by
    unfold pRest
    rw [Nat.testBit_two_pow_mul, Nat.testBit_div_two_pow]
    simp
  have e3 : pRest n i &&& 2 ^ i = if n.testBit i then 2 ^ i else 0 := by
    refine Nat.eq_of_testBit_eq fun j => ?_
    rw [Nat.testBit_and, Nat.testBit_two_pow]
    by_cases hj : i = j
    · subst hj
      rw [this]
      cases hb : n.testBit i
      · simp
      · simp [Nat.testBit_two_pow_self]
    · cases hb : n.testBit i
      · simp [hj]
      · simp [hj, Nat.testBit_two_pow]
  rw [e3]
  cases n.testBit i <;> simp
theorem pRest_succ (n i : Nat) : pRest n (i + 1) = pRest n i - (if n.testBit i then 2 ^ i else 0) ∧ (n.testBit i = true → 2 ^ i ≤ pRest n i) := by
  unfold pRest
  rw [Nat.testBit_eq_decide_div_mod_eq, Nat.pow_succ, ← Nat.div_div_eq_div_mul]
  generalize n / 2 ^ i = m
  generalize 2 ^ i = p
  have hm := Nat.div_add_mod m 2
  have e : p * 2 * (m / 2) = p * (2 * (m / 2)) := by rw [Nat.mul_assoc]
  rw [e]
  by_cases h : m % 2 = 1
  · have : m = 2 * (m / 2) + 1 := by omega
    simp only [h, decide_true, if_true]
    constructor
    · conv => rhs; rw [this]
      rw [Nat.mul_add]; omega
    · intro _; rw [this, Nat.mul_add]; omega
  · have : 2 * (m / 2) = m := by omega
    simp [h, this]
theorem pRest_xor (n i : Nat) (h : n.testBit i = true) : Builtin.bitXor ((pRest n i : Nat) : Int) (1 * 2 ^ i) = ((pRest n (i + 1) : Nat) : Int) := by
  rw [bitXor_and, pRest_and, if_pos h, (pRest_succ n i).1, if_pos h]
  have := (pRest_succ n i).2 h
  have e : (1 * 2 ^ i : Int) = ((2 ^ i : Nat) : Int) := by push_cast; omega
  have e2 : (2 ^ i : Int) = ((2 ^ i : Nat) : Int) := by push_cast; rfl
  rw [e, e2]
  omega
theorem pRest_skip (n i : Nat) (h : n.testBit i = false) : pRest n (i + 1) = pRest n i := by
  rw [(pRest_succ n i).1, h]; simp
theorem pWords_end {n i : Nat} (h : n < 2 ^ i) : ∀ j, pWords n (i + j) = pWords n i
  | 0 => rfl
  | j + 1 => by
    show pWords n (i + j) ++ (if n.testBit (i + j) then [wordAt _] else []) = _
    rw [pWords_end h j, Nat.testBit_lt_two_pow (Nat.lt_of_lt_of_le h (Nat.pow_le_pow_right (by decide) (by omega)))]
    simp
theorem pRest_end {n i : Nat} (h : pRest n i = 0) : n < 2 ^ i := by
  unfold pRest at h
  have hp : 0 < 2 ^ i := Nat.two_pow_pos i
  rcases Nat.mul_eq_zero.mp h with h | h
  · omega
  · exact (Nat.div_eq_zero_iff_lt hp).mp h
theorem pRest_done {n : Nat} (h : n < 4294967296) : pRest n 32 = 0 := by
  unfold pRest; rw [Nat.div_eq_of_lt (Nat.lt_of_lt_of_eq h (by decide))]
theorem pWords_zero : ∀ j, pWords 0 j = []
  | 0 => rfl
  | j + 1 => by show pWords 0 j ++ _ = _; rw [pWords_zero j]; simp
theorem Few.le {n m : Nat} {ss : List Str} (h : Few n ss) (hm : n ≤ m) : Few m ss := ⟨Nat.le_trans h.1 hm, h.2⟩
theorem pRest_le (n i : Nat) : pRest n i ≤ n := Nat.mul_div_le n (2 ^ i)
theorem pow_le31 {i : Nat} (h : i ≤ 31) : 2 ^ i ≤ 2147483648 := by
  have : 2 ^ i ≤ 2 ^ 31 := Nat.pow_le_pow_right (by decide) h
  omega
end

section
open PySem PySem.W PyProof.Rows PySem.Calls PyProof.V
set_option maxRecDepth 100000
structure Pfs where
  f : Int
  tf : Tok
  D : Addr
  vs : List Value
  c : Nat
  ss : List Str
local macro_rules | `(tactic| walk_at "exec For Name Call cons cons") => `(tactic| refine Hold.out ?_)
local macro_rules | `(tactic| walk_at "call builtin:hex") => `(tactic| refine Hold.out ?_)
local macro_rules | `(tactic| walk_at "call builtin:dict.get") => `(tactic| refine Hold.out ?_)
set_option maxHeartbeats 4000000 in
theorem pretty_spec {w : World} {dp un : Nat} {fr : Option (List Env)} {gd : Option (List Code)} {s : Shared} {p : Program} {loose : List Str} {mg mb : Str → Option Value} {Q E : Value → Shared → Prop}
    {n : Nat} {tf : Tok}
    (X : (hd.heap_39 w.params).In s.heap) (T : TopRead p loose mg mb s.heap) (hroom : dp + 1 < recursionLimit) (hun : un + 100 < cLine)
    (hf : n < 4294967296)
    (h : ∀ t h' tk, s.heap.StaysIn h' → Q (.str (prettyText n) t) { s with heap := h', toks := tk }) :
    wpAny (model PySem.Challenge.rw_sn0043_01.row.prog w) (ar dp un fr gd) (call (.ref 122) [.int (n : Int) tf]) Q E s := by
  revert X
  k_fill
  intro X
  refine' enterF (binds := [(Str.ofString "flags", (.int (n : Int) tf))]) ?k1 ?k2 ?k3 ?k4 ?k5 ?k6 ?k7 ?_ ?c1 ?c2 ?c3 ?c4
  (case k1 => k_asm)
  (case k2 => k_asm)
  (case k3 => ktr_room)
  (case k4 => k_is)
  (case k5 => k_is)
  (case k6 => exact BindsTo.of_eq rfl)
  (case k7 => exact locs rfl)
  (case c1 => exact rfl)
  (case c2 => exact rfl)
  (case c3 => exact rfl)
  (case c4 => decide)
  intro h₁ tk₁ F N
  k_steps
  constructor
  refine For_ov ?_
  k_steps
  constructor
  rename Fr _ _ _ _ => F
  rename News _ _ _ _ => N
  rename IsRange _ _ _ _ _ _ _ _ => hR
  refine' iter_range (σ := Pfs) rfl hR ⟨by decide, by decide, by decide, by decide⟩ rfl rfl (fun y => [(Str.ofString "flags", .int y.f y.tf), (Str.ofString "names", .ref y.D)])
    (fun y => [(y.D, listOf y.vs.toArray y.c)])
    (fun i y => y.f = ((pRest n i : Nat) : Int) ∧ y.ss = pWords n i ∧ (y.f = 0 → n = 0) ∧ StrsAre y.vs y.ss ∧ Few i y.ss) (fun y => n ≠ 0 ∧ y.ss = pWords n 32 ∧ StrsAre y.vs y.ss ∧ Few 32 y.ss) ⟨(n : Int), tf, _, [], 0, []⟩ F ?hm N ?hP ?turn ?done ?brk
  (case hm => walk_at "my names")
  (case hP => exact ⟨by rw [pRest_zero], rfl, fun h => by dsimp only at h; omega, .nil, ⟨Nat.le_refl _, fun _ h => nomatch h⟩⟩)
  (case turn =>
    clear F N hR
    rintro i t ⟨f, tf, D, vs, c, ss⟩ u h₂ tk₂ own hi ⟨rfl, rfl, hnz, hS, hFew⟩ ho F N
    simp only [List.cons_append, List.nil_append] at N
    dsimp only [ov, List.map] at F N hnz hS hFew ho ⊢
    refine turnQ fun Q0 hQ0 => ?_
    have hv1 := strsLen hS
    have hv2 := hFew.1
    have hi' : i < 32 := by omega
    have hbig : 2 ^ i ≤ 2147483648 := pow_le31 (by omega)
    have hrs : pRest n i < 4294967296 := Nat.lt_of_le_of_lt (pRest_le n i) hf
    have hand := pRest_and n i
    have hxor := pRest_xor n i
    have hskip := pRest_skip n i
    have hsz := flagSize ⟨i, hi'⟩
    dsimp only at hsz
    generalize hz : (0 : Int) + (i : Int) = z at *
    have hz1 : 0 ≤ z ∧ z < 32 := by omega
    have hz3 : z.toNat = i := by omega
    refine' (let mm6 : Str → Option Value := _; ?_)
    rotate_left
    change Fr _ _ _ mm6 at F
    k_steps
    · constructor
      rename KTD.Keyed _ _ _ => K9
      rename (Builtin.bitAnd _ _ ≠ 0) => hne9
      simp only [hz3] at *
      refine P.hex_of_int ?_ ?_
      · k_steps
        constructor
        refine flagKeyed K9 (Fr.keep (by assumption)) hi' rfl fun t9 => ?_
        k_steps
        · rename Fr _ _ _ _ => F9
          rename News _ _ _ _ => N9
          have ht : n.testBit i = true := by
            cases e : n.testBit i with
            | true => rfl
            | false => rw [hand, if_neg (by rw [e]; decide)] at hne9; exact absurd rfl hne9
          refine hQ0 _ _ ?_; refine' StepF.next ⟨_, _, D, _, _, pWords n i ++ [wordAt i]⟩ F9 ?hm ?N ho ?hP
          (case hm => walk_at "my names")
          (case N => exact N9)
          (case hP =>
            dsimp only
            refine ⟨hxor ht, ?_, ?_, ?_, hFew.snoc hsz.1⟩
            · rw [pWords, if_pos ht]
            · intro h; exact absurd h (by assumption)
            · rw [List.concat_eq_append]; exact strsSnoc hS)
        · rename Fr _ _ _ _ => F9
          rename News _ _ _ _ => N9
          have ht : n.testBit i = true := by
            cases e : n.testBit i with
            | true => rfl
            | false => rw [hand, if_neg (by rw [e]; decide)] at hne9; exact absurd rfl hne9
          rename (Builtin.bitXor _ _ = 0) => hx0
          rw [hxor ht] at hx0
          have hlt := pRest_end (n := n) (i := i + 1) (by omega)
          have hend := pWords_end hlt (32 - (i + 1))
          rw [show i + 1 + (32 - (i + 1)) = 32 by omega] at hend
          have e9 : pWords n (i + 1) = pWords n i ++ [wordAt i] := by rw [pWords, if_pos ht]
          refine hQ0 _ _ ?_; refine' StepF.brk ⟨_, _, D, _, _, pWords n i ++ [wordAt i]⟩ F9 ?hm ?N ?hP
          (case hm => walk_at "my names")
          (case N => exact cb_drop N9 (by walk_at "my sub"))
          (case hP =>
            dsimp only
            refine ⟨?_, (hend.trans e9).symm, ?_, (hFew.snoc hsz.1).le (by omega)⟩
            · intro h; subst h; simp at ht
            · rw [List.concat_eq_append]; exact strsSnoc hS)
      · exact hsz.2
    · have ht : n.testBit i = false := by
        simp only [hz3] at *
        cases e : n.testBit i with
        | false => rfl
        | true =>
          rename (Builtin.bitAnd _ _ = 0) => h0
          rw [hand, if_pos e] at h0
          have hp2 : (0 : Int) < 2 ^ i := Int.pow_pos (by decide)
          rw [h0] at hp2
          exact absurd hp2 (by decide)
      rename Fr _ _ _ _ => F9
      rename News _ _ _ _ => N9
      refine hQ0 _ _ ?_; refine' StepF.next ⟨_, _, D, vs, c, pWords n i⟩ F9 ?hm ?N ho ?hP
      (case hm => walk_at "my names")
      (case N => exact N9)
      (case hP =>
        dsimp only
        refine ⟨by rw [hskip ht], ?_, hnz, hS, hFew.up⟩
        rw [pWords, ht]; simp))
  (case done =>
    clear F N hR
    rintro ⟨f, tf, D, vs, c, ss⟩ u h₂ tk₂ ⟨rfl, hW, hnz, hS, hFew⟩ F N
    dsimp only [ov] at F N hnz hS hFew hW ⊢
    rw [show ((32 : Int) - 0).toNat = 32 from rfl] at hnz hW hFew F
    have h0 := hnz (by rw [pRest_done hf]; rfl)
    subst h0
    rw [pWords_zero] at hW
    subst hW
    cases hS
    have h00 : ((pRest 0 32 : Nat) : Int) = 0 := by rw [pRest_done hf]; rfl
    rw [h00] at F
    have e0 : baseText "0x" 16 0 = Str.ofString "0x0" := by decide +kernel
    have hFew1 : Few 32 [Str.ofString "0x0"] := ⟨by decide, by decide +kernel⟩
    have e1 : Txt.join (Str.ofString ", ") [Str.ofString "0x0"] = prettyText 0 := by decide +kernel
    k_steps
    constructor
    refine P.hex_of_int ?_ (by decide +kernel)
    rw [e0]
    k_steps
    rw [e1]
    exact h _ _ _ (Fr.keep (by assumption)))
  (case brk =>
    clear F N hR
    rintro ⟨f, tf, D, vs, c, ss⟩ u h₂ tk₂ ⟨hn0, hW, hS, hFew⟩ F N
    dsimp only [ov] at F N hS hFew ⊢
    have hJ := few_join hFew (by decide) (sep := Str.ofString ", ") (by decide)
    have e : prettyText n = Txt.join (Str.ofString ", ") ss := by rw [prettyText, if_neg hn0]; dsimp only at hW; rw [hW]
    k_steps
    rw [← e]
    exact h _ _ _ (Fr.keep (by assumption)))
end

section
open PySem PySem.W PyProof.Rows PySem.Calls PyProof.V
set_option maxRecDepth 100000
theorem split_at {p : Int → Bool} : ∀ (ns : List Int) (k : Nat), k ≤ ns.length → (∀ i, i < k → p (ns.getD i 0) = true) → (∀ i, k ≤ i → i < ns.length → p (ns.getD i 0) = false) → ns.filter p = ns.take k ∧ ns.filter (fun y => !p y) = ns.drop k
  | [], k, h, _, _ => by simp
  | a :: r, 0, _, _, h2 => by
    have h0 : p a = false := h2 0 (by omega) (by simp)
    have ih := split_at r 0 (by omega) (fun i hi => by omega) (fun i _ hi => h2 (i + 1) (by omega) (by simp; omega))
    simp only [List.take_zero, List.drop_zero] at ih ⊢
    exact ⟨by rw [List.filter_cons_of_neg (by simp [h0])]; exact ih.1, by rw [List.filter_cons_of_pos (by simp [h0]), ih.2]⟩
  | a :: r, k + 1, h, h1, h2 => by
    have h0 : p a = true := h1 0 (by omega)
    have ih := split_at r k (by simp at h; omega) (fun i hi => h1 (i + 1) (by omega)) (fun i h3 hi => h2 (i + 1) (by omega) (by simp; omega))
    exact ⟨by rw [List.filter_cons_of_pos h0, ih.1, List.take_succ_cons], by rw [List.filter_cons_of_neg (by simp [h0]), ih.2, List.drop_succ_cons]⟩
noncomputable def lows (x : Int) (ns : List Int) : List Int := ns.filter fun y => decide (y < x)
noncomputable def highs (x : Int) (ns : List Int) : List Int := ns.filter fun y => !decide (y ≤ x)
noncomputable def ins (x : Int) (ns : List Int) : List Int := lows x ns ++ x :: ns.filter fun y => !decide (y < x)
theorem Lft.split {ns : List Int} {x k : Int} (h : Lft ns x k) : lows x ns = ns.take k.toNat ∧ (ns.filter fun y => !decide (y < x)) = ns.drop k.toNat := by
  have h1 := h.lo
  have h2 := h.hi
  refine split_at (p := fun y => decide (y < x)) ns k.toNat (by omega) (fun i hi => decide_eq_true (h.below i (by omega))) (fun i hi hl => decide_eq_false (by have := h.above i (by omega) hl; omega))
theorem Lft.ins {ns : List Int} {x k : Int} (h : Lft ns x k) : ns.take k.toNat ++ x :: ns.drop k.toNat = ins x ns := by
  unfold Mine.ins; rw [h.split.1, h.split.2]
theorem Lft.count {ns : List Int} {x k : Int} (h : Lft ns x k) : k = ((lows x ns).length : Int) := by
  have h1 := h.lo
  have h2 := h.hi
  rw [h.split.1, List.length_take]; omega
theorem Rgt.highs {ns : List Int} {x k : Int} (h : Rgt ns x k) : ns.drop k.toNat = highs x ns := by
  have h1 := h.lo
  have h2 := h.hi
  exact (split_at (p := fun y => decide (y ≤ x)) ns k.toNat (by omega) (fun i hi => decide_eq_true (h.below i (by omega))) (fun i hi hl => decide_eq_false (by have := h.above i (by omega) hl; omega))).2.symm
theorem srt_iff {ns : List Int} : Srt ns ↔ ns.Pairwise (· ≤ ·) := by
  rw [List.pairwise_iff_getElem]
  constructor
  · intro h i j hi hj hij
    have := h i j (Nat.le_of_lt hij) hj
    simpa [List.getD_eq_getElem?_getD, hi, hj] using this
  · intro h i j hij hj
    rcases Nat.lt_or_ge i j with h1 | h1
    · have := h i j (by omega) hj h1
      simpa [List.getD_eq_getElem?_getD, hj, Nat.lt_trans h1 hj] using this
    · have : i = j := by omega
      subst this; exact Int.le_refl _
theorem srt_ins {ns : List Int} {x : Int} (h : Srt ns) : Srt (ins x ns) := by
  rw [srt_iff] at *
  unfold ins lows
  rw [List.pairwise_append, List.pairwise_cons]
  refine ⟨h.filter _, ⟨fun y hy => ?_, h.filter _⟩, fun a ha b hb => ?_⟩
  · simp at hy; omega
  · simp at ha hb
    rcases hb with rfl | hb
    · omega
    · omega
theorem mem_ins {ns : List Int} {x y : Int} (h : y ∈ ins x ns) : y = x ∨ y ∈ ns := by
  unfold ins lows at h
  simp at h
  rcases h with h | h | h
  · exact .inr h.1
  · exact .inl h
  · exact .inr h.1
theorem filter_len (p : Int → Bool) : ∀ ns : List Int, (ns.filter p).length + (ns.filter fun y => !p y).length = ns.length
  | [] => rfl
  | a :: r => by
    have ih := filter_len p r
    cases h : p a
    · rw [List.filter_cons_of_neg (by simp [h]), List.filter_cons_of_pos (by simp [h]), List.length_cons, List.length_cons]; omega
    · rw [List.filter_cons_of_pos h, List.filter_cons_of_neg (by simp [h]), List.length_cons, List.length_cons]; omega
theorem len_ins {ns : List Int} {x : Int} : (ins x ns).length = ns.length + 1 := by
  unfold ins lows
  rw [List.length_append, List.length_cons]
  have := filter_len (fun y => decide (y < x)) ns
  omega
noncomputable def wKept (ns : List Int) : Nat → List Int
  | 0 => []
  | i + 1 => ins (ns.getD i 0) (wKept ns i)
noncomputable def addFlags (x : Int) (hs : List Int) (f : Int) : Nat → Int
  | 0 => f
  | i + 1 => addFlags x hs f i + 1 * 2 ^ ((hs.getD i 0 * (hs.getD i 0 - 1)).fdiv 2 + x).toNat
noncomputable def wFlags (ns : List Int) : Nat → Int
  | 0 => 0
  | i + 1 => addFlags (ns.getD i 0) (highs (ns.getD i 0) (wKept ns i)) (wFlags ns i) (highs (ns.getD i 0) (wKept ns i)).length
noncomputable def wRows (ns : List Int) : Nat → List (List Int)
  | 0 => []
  | i + 1 => if i + 1 < 5 then wRows ns i ++ [wKept ns (i + 1)] else wRows ns i
theorem wRows_len (ns : List Int) : ∀ i, (wRows ns i).length ≤ i
  | 0 => Nat.le_refl _
  | i + 1 => by
    have := wRows_len ns i
    rw [wRows]
    split
    · rw [List.length_append, List.length_singleton]; omega
    · omega
noncomputable def Five (ns : List Int) : Prop := ns.length = 5 ∧ ∀ x ∈ ns, 0 ≤ x ∧ x < 5
theorem Five.at {ns : List Int} (h : Five ns) {i : Nat} (hi : i < 5) : 0 ≤ ns.getD i 0 ∧ ns.getD i 0 < 5 :=
  h.2 _ (getD_mem (by rw [h.1]; exact hi))
theorem wKept_len (ns : List Int) : ∀ i, (wKept ns i).length = i
  | 0 => rfl
  | i + 1 => by rw [wKept, len_ins, wKept_len ns i]
theorem wKept_srt (ns : List Int) : ∀ i, Srt (wKept ns i)
  | 0 => fun i j _ h => absurd h (Nat.not_lt_zero _)
  | i + 1 => srt_ins (wKept_srt ns i)
theorem wKept_mem {ns : List Int} (h : Five ns) : ∀ i, i ≤ 5 → ∀ x ∈ wKept ns i, 0 ≤ x ∧ x < 5
  | 0, _, x, hx => nomatch hx
  | i + 1, hi, x, hx => by
    rcases mem_ins hx with rfl | hx
    · exact h.at (by omega)
    · exact wKept_mem h i (by omega) x hx
inductive All2 {α β : Type} (R : α → β → Prop) : List α → List β → Prop
  | nil : All2 R [] []
  | cons {a b as bs} : R a b → All2 R as bs → All2 R (a :: as) (b :: bs)
theorem All2.mono {α β : Type} {R S : α → β → Prop} (h : ∀ a b, R a b → S a b) : ∀ {as : List α} {bs : List β}, All2 R as bs → All2 S as bs
  | _, _, .nil => .nil
  | _, _, .cons x y => .cons (h _ _ x) (y.mono h)
theorem All2.snoc {α β : Type} {R : α → β → Prop} {a : α} {b : β} (h : R a b) : ∀ {as : List α} {bs : List β}, All2 R as bs → All2 R (as ++ [a]) (bs ++ [b])
  | _, _, .nil => .cons h .nil
  | _, _, .cons x y => .cons x (y.snoc h)
theorem All2.length {α β : Type} {R : α → β → Prop} : ∀ {as : List α} {bs : List β}, All2 R as bs → as.length = bs.length
  | _, _, .nil => rfl
  | _, _, .cons _ y => by simp [y.length]
theorem All2.get {α β : Type} {R : α → β → Prop} : ∀ {as : List α} {bs : List β}, All2 R as bs → ∀ (i : Nat) (b : β), bs[i]? = some b → ∃ a, as[i]? = some a ∧ R a b
  | _, _, .cons x _, 0, b, e => by simp at e; subst e; exact ⟨_, rfl, x⟩
  | _, _, .cons _ y, i + 1, b, e => y.get i b e
/-- a row's list and a lead's object, in a ledger -/
noncomputable def RowEx (ex : List (Addr × Obj)) (v : Value) (ns : List Int) : Prop := ∃ (a : Addr) (vs : List Value) (n : Nat), v = .ref a ∧ (a, listOf vs.toArray n) ∈ ex ∧ IntsAre vs ns
theorem RowEx.more {ex ex' : List (Addr × Obj)} {v : Value} {ns : List Int} (h : RowEx ex v ns) (k : ∀ p ∈ ex, p ∈ ex') : RowEx ex' v ns :=
  let ⟨a, vs, n, e, m, i⟩ := h; ⟨a, vs, n, e, k _ m, i⟩
theorem LeadEx.more {P : Params} {ex ex' : List (Addr × Obj)} {v : Value} {y : WS} (h : LeadEx P ex v y) (k : ∀ p ∈ ex, p ∈ ex') : LeadEx P ex' v y :=
  let ⟨x, dx, q, e, m1, m2, m3, m4, i⟩ := h
  ⟨x, dx, q, e, k _ m1, k _ m2, k _ m3, k _ m4, i⟩
theorem LeadEx.wsIn {P : Params} {ex : List (Addr × Obj)} {v : Value} {y : WS} {h : Heap} (hl : LeadEx P ex v y) (k : ∀ p ∈ ex, h.get? p.1 = some p.2) : ∃ x, v = .ref x ∧ WsIn P h x y :=
  let ⟨x, dx, q, e, m1, m2, m3, m4, i⟩ := hl
  ⟨x, e, dx, q, k _ m1, k _ m2, k _ m3, k _ m4, i⟩
theorem mulBound {x : Int} (h : 0 ≤ x ∧ x < 5) : 0 ≤ x * (x - 1) ∧ x * (x - 1) ≤ 12 := by
  have : x = 0 ∨ x = 1 ∨ x = 2 ∨ x = 3 ∨ x = 4 := by omega
  rcases this with rfl | rfl | rfl | rfl | rfl <;> decide
theorem frBut {h₀ h h' : Heap} {L l : Addr} {m : Str → Option Value} (F : Fr h₀ L h m) (k : StaysBut l h h') (hl : h₀.get? l = none) (hne : L ≠ l) : Fr h₀ L h' m :=
  ⟨F.ns.at fun o e => k _ o hne e, fun b o e => k b o (fun q => by rw [q, hl] at e; cases e) (F.keep b o e), F.above⟩
theorem newsBut {h₀ h h' : Heap} {L l : Addr} {o o' : Obj} {r : List (Addr × Obj)} (N : News h₀ L h ((l, o) :: r)) (k : StaysBut l h h') (hr : ∀ p ∈ r, p.1 ≠ l) (e : h'.get? l = some o') : News h₀ L h' ((l, o') :: r) := by
  intro p hp
  rcases List.mem_cons.mp hp with rfl | hp
  · exact ⟨e, (N _ (.head _)).2⟩
  · exact ⟨k _ _ (hr p hp) (N p (.tail _ hp)).1, (N p (.tail _ hp)).2⟩
noncomputable def piece (ls : List Int) (one : Int) : Str := Txt.mul (Str.ofString " ") (ls.getD one.toNat 0) ++ Str.ofString "\t"
noncomputable def leadStr (ls : List Int) (blanks : Int) (kept : List Int) : Str := Txt.join (Str.ofString "") (kept.map (piece ls)) ++ Txt.mul (Str.ofString " ") blanks ++ Str.ofString "x\t"
theorem spaces_len : ∀ k : Fin 8, (Txt.mul (Str.ofString " ") ((k : Nat) : Int)).length ≤ 7 := by decide +kernel
theorem spaces_len' {b : Int} (h : 0 ≤ b ∧ b ≤ 7) : (Txt.mul (Str.ofString " ") b).length ≤ 7 := by
  have := spaces_len ⟨b.toNat, by omega⟩
  rwa [show ((b.toNat : Nat) : Int) = b by omega] at this
theorem piece_len {ls : List Int} {z : Int} (h : 0 ≤ ls.getD z.toNat 0 ∧ ls.getD z.toNat 0 ≤ 7) : (piece ls z).length ≤ 40 := by
  unfold piece
  rw [Str.length_append]
  have := spaces_len' h
  have h1 : (Str.ofString "\t").length = 1 := by decide +kernel
  omega
structure IsPiece (ls : List Int) (v u : Value) : Prop where
  of : ∃ z t1 t2, v = .int z t1 ∧ u = .str (piece ls z) t2
theorem pieces {ls : List Int} : ∀ {vs ws : List Value} {ns : List Int}, IntsAre vs ns → Paired (IsPiece ls) (vs.filter fun _ => true) ws → StrsAre ws (ns.map (piece ls))
  | _, _, _, .nil, h => by cases h; exact .nil
  | _, _, _, .cons n t r, h => by
    rw [List.filter_cons_of_pos rfl] at h
    cases h with
    | cons a b =>
      obtain ⟨z, t1, t2, e, rfl⟩ := a.of
      cases e
      exact .cons _ t2 (pieces r b)
theorem pieces_few {ls ns : List Int} (hl : ls.length = 5 ∧ ∀ x ∈ ls, 0 ≤ x ∧ x ≤ 7) (hn : ns.length ≤ 5) (h : ∀ x ∈ ns, 0 ≤ x ∧ x < 5) : Few 5 (ns.map (piece ls)) := by
  refine ⟨by rw [List.length_map]; exact hn, fun x hx => ?_⟩
  obtain ⟨z, hz, rfl⟩ := List.mem_map.mp hx
  exact piece_len (hl.2 _ (getD_mem (by have := h z hz; rw [hl.1]; omega)))
theorem few_join0 {ss : List Str} (h : Few 5 ss) : (Txt.join (Str.ofString "") ss).length ≤ 200 := by
  show (Builtin.Str.glued _ ss).length ≤ _
  rw [StrLaws.glued_eq_join]
  refine Nat.le_trans (StrLaws.join_length_le _ ss) ?_
  have h1 := Few.sum h.2
  have h2 := h.1
  have h3 : (Str.ofString "").length = 0 := by decide +kernel
  rw [h3]
  omega
theorem lead_size {ls ns : List Int} {b : Int} (h : (Txt.join (Str.ofString "") (ns.map (piece ls))).length ≤ 200) (hb : 0 ≤ b ∧ b ≤ 7) : (leadStr ls b ns).cps.size < 1000 := by
  show (leadStr ls b ns).length < 1000
  unfold leadStr
  rw [Str.length_append, Str.length_append]
  have := spaces_len' hb
  have h1 : (Str.ofString "x\t").length = 2 := by decide +kernel
  omega
theorem newsInit {g h h' : Heap} {L x dx : Addr} {o1 o2 : Obj} {m : Str → Option Value} {news ex : List (Addr × Obj)} (F : Fr g L h m) (N : News g L h ((x, o1) :: (dx, o2) :: news)) (l1 : ∀ p ∈ news, p.1 < dx) (l2 : dx < x)
    (st : StaysOff [x, dx] h h') (hex : ∀ p ∈ ex, NewAt [x, dx] h h' p) : Fr g L h' m ∧ News g L h' (ex ++ news) ∧ ∀ p ∈ ex, ∀ q ∈ news, p.1 ≠ q.1 := by
  have hx := N _ (.head _)
  have hd := N _ (.tail _ (.head _))
  obtain ⟨oL, _, _, hL, _⟩ := id F.ns
  have hout : ∀ b, g.get? b ≠ none → b ∉ [x, dx] := fun b hb hm => by
    simp only [List.mem_cons, List.not_mem_nil, or_false] at hm
    rcases hm with rfl | rfl
    · exact hb hx.2.2
    · exact hb hd.2.2
  have hLo : L ∉ [x, dx] := fun hm => by
    simp only [List.mem_cons, List.not_mem_nil, or_false] at hm
    rcases hm with rfl | rfl
    · exact hx.2.1 rfl
    · exact hd.2.1 rfl
  have hnews : ∀ p ∈ news, p.1 ∉ [x, dx] := fun p hp hm => by
    have h1 := l1 p hp
    simp only [List.mem_cons, List.not_mem_nil, or_false] at hm
    rcases hm with e | e
    · exact absurd (Nat.lt_trans h1 l2) (by rw [e]; exact Nat.lt_irrefl _)
    · exact absurd h1 (by rw [e]; exact Nat.lt_irrefl _)
  refine ⟨⟨F.ns.at fun o e => st _ o hLo e, fun b o e => st b o (hout b (by rw [e]; simp)) (F.keep b o e), F.above⟩, fun p hp => ?_, fun p hp q hq e => ?_⟩
  · rcases List.mem_append.mp hp with hp | hp
    · obtain ⟨h1, h2⟩ := hex p hp
      refine ⟨h1, ?_⟩
      rcases h2 with h2 | h2
      · simp only [List.mem_cons, List.not_mem_nil, or_false] at h2
        rcases h2 with h2 | h2
        · rw [h2]; exact hx.2
        · rw [h2]; exact hd.2
      · refine ⟨fun e => (by rw [e, hL] at h2; cases h2), ?_⟩
        cases q : g.get? p.1 with
        | none => rfl
        | some o => rw [F.keep _ _ q] at h2; cases h2
    · have := N p (.tail _ (.tail _ hp))
      exact ⟨st _ _ (hnews p hp) this.1, this.2⟩
  · rcases (hex p hp).2 with h2 | h2
    · exact hnews q hq (e ▸ h2)
    · have := (N q (.tail _ (.tail _ hq))).1
      rw [← e, h2] at this; cases this
end

section
open PySem PySem.W PyProof.Rows PySem.Calls PyProof.V
set_option maxRecDepth 100000
structure Wk where
  kv : List Value
  kc : Nat
  rv : List Value
  rc : Nat
  lv : List Value
  lc : Nat
  f : Int
  tf : Tok
  ex : List (Addr × Obj)
local macro_rules | `(tactic| walk_at "exec For Name Name cons nil") => `(tactic| refine Hold.out ?_)
local macro_rules | `(tactic| walk_at "exec For Name Subscript cons nil") => `(tactic| refine Hold.out ?_)
local macro_rules | `(tactic| walk_at "call ref") => `(tactic| refine Hold.out ?_)
local macro_rules | `(tactic| walk_at "eval ListComp") => `(tactic| refine Hold.out ?_)
set_option maxHeartbeats 4000000 in
theorem walk_spec {w : World} {dp un : Nat} {fr : Option (List Env)} {gd : Option (List Code)} {s : Shared} {p : Program} {loose : List Str} {mg mb : Str → Option Value} {Q E : Value → Shared → Prop}
    {l lL : Addr} {vs lvs : List Value} {ns ls : List Int} {blanks : Int} {tb : Tok}
    (X : (hd.heap_39 w.params).In s.heap) (T : TopRead p loose mg mb s.heap) (hroom : dp + 4 < recursionLimit) (hun : un + 200 < cLine)
    (hl : s.heap.IsList l vs.toArray) (hI : IntsAre vs ns) (h5 : Five ns)
    (hlL : s.heap.IsList lL lvs.toArray) (hIL : IntsAre lvs ls) (hls : ls.length = 5 ∧ ∀ x ∈ ls, 0 ≤ x ∧ x ≤ 7) (hbl : 0 ≤ blanks ∧ blanks ≤ 7)
    (h : ∀ (t rR rL : Addr) (tf : Tok) (rv lv : List Value) (rc lc : Nat) ex h' tk, s.heap.StaysIn h' → All2 (RowEx ex) rv (wRows ns 5) → All2 (fun v kn => LeadEx w.params ex v (wsOf (leadStr ls blanks kn))) lv (wRows ns 5) →
      (∀ p ∈ ex, h'.get? p.1 = some p.2 ∧ s.heap.get? p.1 = none) →
      (∀ p ∈ [(t, tupOf #[.ref rR, .ref rL, .int (wFlags ns 5) tf]), (rR, listOf rv.toArray rc), (rL, listOf lv.toArray lc)], h'.get? p.1 = some p.2 ∧ s.heap.get? p.1 = none) →
      Q (.ref t) { s with heap := h', toks := tk }) :
    wpAny (model PySem.Challenge.rw_sn0043_01.row.prog w) (ar dp un fr gd) (call (.ref 141) [.ref l, .ref lL, .int blanks tb]) Q E s := by
  refine wpAny_call ?_
  revert X
  k_fill
  intro X
  refine' codeNC (hid := []) (h₀ := s.heap) (binds := [(Str.ofString "order", .ref l), (Str.ofString "lengths", .ref lL), (Str.ofString "blanks", .int blanks tb)]) X T (fun _ _ e => e) (fun p hp => nomatch hp) ?k3 ?k4 ?k5 ?k6 ?k7 ?k8 ?_ ?c1 ?c2 ?c3
  (case k3 => ktr_room)
  (case k4 => k_is)
  (case k5 => k_is)
  (case k6 => exact BindsTo.of_eq rfl)
  (case k7 => exact rfl)
  (case k8 => decide +kernel)
  (case c1 => exact rfl)
  (case c2 => exact rfl)
  (case c3 => exact rfl)
  intro g h₁ tk₁ cells kg kg₀ Xg Tg hlt F N Y
  k_cells Y
  simp only [List.append_nil] at N
  clear X T hlt
  rename_i o2 d2
  replace d2 : o2.data = .cell (some (.ref lL)) := d2
  have hl' : g.IsList l vs.toArray := stays_list kg₀ hl
  have hlL' : g.IsList lL lvs.toArray := stays_list kg₀ hlL
  k_steps
  constructor
  refine For_ov ?_
  k_steps
  constructor
  rename Fr _ _ _ _ => F
  rename News _ _ _ _ => N
  rename_i lK _ l1 _ lR _ l2 _ lD _ l3 _ _
  clear kg₀
  refine' iter_list1 (σ := Wk) rfl (stays_list F.keep hl') ?hne rfl rfl
    (fun y => [(Str.ofString "flags", .int y.f y.tf), (Str.ofString "leads", .ref lD), (Str.ofString "rows", .ref lR), (Str.ofString "kept", .ref lK), (Str.ofString "blanks", .int blanks tb)])
    (fun y => (lK, listOf y.kv.toArray y.kc) :: (lR, listOf y.rv.toArray y.rc) :: (lD, listOf y.lv.toArray y.lc) :: (s.heap.objs.size + 1, o2) :: y.ex)
    (fun i y => IntsAre y.kv (wKept ns i) ∧ y.f = wFlags ns i ∧ All2 (RowEx y.ex) y.rv (wRows ns i) ∧ All2 (fun v kn => LeadEx w.params y.ex v (wsOf (leadStr ls blanks kn))) y.lv (wRows ns i) ∧
      OwnOff y.ex [lK, lR, lD, s.heap.objs.size + 1])
    (fun y => y.f = wFlags ns 5 ∧ All2 (RowEx y.ex) y.rv (wRows ns 5) ∧ All2 (fun v kn => LeadEx w.params y.ex v (wsOf (leadStr ls blanks kn))) y.lv (wRows ns 5)) ⟨[], 0, [], 0, [], 0, 0, _, []⟩ F ?hm ?N ?hoff ?hP ?turn ?conv ?fin
  (case hne => exact Nat.ne_of_lt (Nat.lt_of_lt_of_le (Heap.lt_size hl.choose_spec.1) (Nat.le_refl _)))
  (case hm => walk_at "my names")
  (case N => exact cb_drop N (by walk_at "my sub"))
  (case hoff => 
    intro p hp e
    have := (N p (by simp only [List.mem_cons, List.not_mem_nil, or_false] at hp ⊢; grind)).2.2
    rw [e] at this
    obtain ⟨o, ho, _⟩ := hl'
    rw [ho] at this; cases this)
  (case hP => exact ⟨.nil, rfl, .nil, .nil, fun p hp => nomatch hp⟩)
  (case conv => 
    intro y h
    rw [show vs.length = 5 by rw [hI.length, h5.1]] at h
    exact ⟨h.2.1, h.2.2.1, h.2.2.2.1⟩)
  (case turn =>
    clear F N
    rintro i v ⟨kv, kc, rv, rc, lv, lc, f, tf, ex⟩ u h₂ tk₂ own hv ⟨hIk, rfl, hA, hB, hx⟩ ho F N
    dsimp only [ov, List.map] at F N hIk hA hB hx ho ⊢
    refine turnQ fun Q0 hQ0 => ?_
    simp only [List.cons_append, List.nil_append] at N
    have hi : i < 5 := by
      have := (List.getElem?_eq_some_iff.mp hv).1
      rw [hI.length, h5.1] at this; exact this
    obtain ⟨t, rfl⟩ := hI.int_at i v hv
    have hth := h5.at hi
    have hkm := wKept_mem h5 i (by omega)
    have hkl := wKept_len ns i
    have hks := wKept_srt ns i
    have hkv := hIk.length
    have hrl : rv.length ≤ 5 := by rw [hA.length]; have := wRows_len ns i; omega
    have hll : lv.length ≤ 5 := by rw [hB.length]; have := wRows_len ns i; omega
    generalize hth0 : ns.getD i 0 = th at *
    obtain ⟨own', ho', he1, he2, N'⟩ : ∃ own', OwnOff own' [lK, lR, lD, s.heap.objs.size + 1] ∧ (∀ p ∈ ex, p ∈ own') ∧ (∀ p ∈ own, p ∈ own') ∧
        News g (s.heap.objs.size) h₂ ((lK, listOf kv.toArray kc) :: (lR, listOf rv.toArray rc) :: (lD, listOf lv.toArray lc) :: (s.heap.objs.size + 1, o2) :: own') :=
      ⟨ex ++ own, fun p hp => (List.mem_append.mp hp).elim (hx p) (fun hp b hb => ho p hp b (by simp only [List.mem_cons] at hb ⊢; grind)), fun p hp => List.mem_append_left _ hp, fun p hp => List.mem_append_right _ hp, N⟩
    clear N
    refine' (let mm7 : Str → Option Value := _; ?_)
    rotate_left
    change Fr _ _ _ mm7 at F
    k_steps
    constructor
    refine For_ov ?_
    k_steps
    constructor
    rename Fr _ _ _ _ => F
    rename News _ _ _ _ => N
    refine' bisect_right_spec (Xg.keeps F.keep) (Tg.keeps F.keep) ?hr (.inl ⟨rfl, rfl⟩) (PySem.IsL.isList (N _ (.head _)).1) hIk (by omega) hks ?_
    (case hr => ktr_room)
    intro k t' h' tk' st hR
    replace F := frStays F st
    replace N := newsStays N st
    clear st
    have hk1 := hR.lo
    have hk2 := hR.hi
    dsimp only at F N ⊢
    k_steps
    constructor
    rename Fr _ _ _ _ => F
    rename News _ _ _ _ => N
    rename IntsAre _ (List.drop _ _) => hI9
    rename (_ ∧ _ ∧ _ ∧ _ ∧ _) => l4
    rw [hR.highs] at hI9
    have hhs : ∀ x ∈ highs th (wKept ns i), 0 ≤ x ∧ x < 5 := fun x hx => hkm x (List.mem_filter.mp hx).1
    refine' iter_list1 (σ := Int × Tok) rfl (PySem.IsL.isList (N _ (.head _)).1) ?hne2 rfl rfl
      (fun y => [(Str.ofString "flags", .int y.1 y.2), (Str.ofString "thing", .int th t), (Str.ofString "leads", .ref lD), (Str.ofString "rows", .ref lR), (Str.ofString "kept", .ref lK), (Str.ofString "blanks", .int blanks tb)])
      (fun y => (lK, listOf kv.toArray kc) :: (lR, listOf rv.toArray rc) :: (lD, listOf lv.toArray lc) :: (s.heap.objs.size + 1, o2) :: own')
      (fun j y => y.1 = addFlags th (highs th (wKept ns i)) (wFlags ns i) j) (fun y => y.1 = addFlags th (highs th (wKept ns i)) (wFlags ns i) (highs th (wKept ns i)).length) ⟨_, _⟩ F ?hm2 ?N2 ?hoff2 ?hP2 ?turn2 ?conv2 ?fin2
    (case hne2 => exact (N _ (.head _)).2.1)
    (case hm2 => walk_at "my names")
    (case N2 => exact cb_drop N (by intro p hp; exact List.mem_cons_of_mem _ hp))
    (case hoff2 =>
      obtain ⟨a1, a2, a3, a4, a5⟩ := l4
      intro p hp
      simp only [List.mem_cons] at hp
      rcases hp with rfl | rfl | rfl | rfl | hp
      · exact Nat.ne_of_lt a1
      · exact Nat.ne_of_lt a2
      · exact Nat.ne_of_lt a3
      · exact Nat.ne_of_lt a4
      · exact Nat.ne_of_lt (allLt_mem a5 p hp))
    (case hP2 => rfl)
    (case conv2 =>
      intro y h
      rw [hI9.length] at h
      exact h)
    (case turn2 =>
      clear F N
      rintro j v2 ⟨f2, tf2⟩ u2 h3 tk3 own2 hv2 rfl ho2 F N
      dsimp only [ov, List.map] at F N ho2 ⊢
      refine turnQ fun Q0 hQ0 => ?_
      simp only [List.cons_append] at N
      obtain ⟨t3, rfl⟩ := hI9.int_at j v2 hv2
      have hj : j < (highs th (wKept ns i)).length := by
        have := (List.getElem?_eq_some_iff.mp hv2).1
        rw [hI9.length] at this; exact this
      have hj2 := hhs _ (getD_mem (k := j) hj)
      have hadd : addFlags th (highs th (wKept ns i)) (wFlags ns i) (j + 1) = addFlags th (highs th (wKept ns i)) (wFlags ns i) j + 1 * 2 ^ (((highs th (wKept ns i)).getD j 0 * ((highs th (wKept ns i)).getD j 0 - 1)).fdiv 2 + th).toNat := rfl
      generalize (highs th (wKept ns i)).getD j 0 = hj0 at *
      have hb3 : 0 ≤ hj0 * (hj0 - 1) ∧ hj0 * (hj0 - 1) ≤ 12 := mulBound hj2
      have hb4 : 0 ≤ (hj0 * (hj0 - 1)).fdiv 2 ∧ (hj0 * (hj0 - 1)).fdiv 2 ≤ 6 := by
        rw [Int.fdiv_eq_ediv_of_nonneg _ (by decide)]; omega
      obtain ⟨f2, hf2⟩ : ∃ f2, f2 = addFlags th (highs th (wKept ns i)) (wFlags ns i) j := ⟨_, rfl⟩
      rw [← hf2] at hadd F
      clear hf2
      refine' (let mm8 : Str → Option Value := _; ?_)
      rotate_left
      change Fr _ _ _ mm8 at F
      k_steps
      rename Fr _ _ _ _ => F9
      rename News _ _ _ _ => N9
      refine hQ0 _ _ ?_; refine' StepF.next ⟨_, _⟩ F9 ?hm2 ?N2 ho2 ?hP2
      (case hm2 => walk_at "my names")
      (case N2 => exact N9)
      (case hP2 => exact hadd.symm))
    (case fin2 =>
      clear F N hI9 l4
      rintro ⟨f2, tf2⟩ u2 h3 tk3 hf2 F N
      dsimp only [ov] at F N hf2 ⊢
      have hf3 : f2 = wFlags ns (i + 1) := by rw [wFlags, hth0]; exact hf2
      clear hf2
      subst hf3
      k_steps
      constructor
      rename Fr _ _ _ _ => F
      rename News _ _ _ _ => N
      refine' insort_left_spec Xg Tg F.keep (N _ (.head _)).2.2 (N _ (.head _)).1 ?hr3 hIk (by omega) hks ?_
      (case hr3 => ktr_room)
      intro k3 h4 tk4 st hL hget
      have hIk' := (hIk.take k3.toNat).append (.cons th t (hIk.drop k3.toNat))
      rw [hL.ins] at hIk'
      generalize kv.take k3.toNat ++ Value.int th t :: kv.drop k3.toNat = kv' at *
      have hK : wKept ns (i + 1) = ins th (wKept ns i) := by rw [wKept, hth0]
      rw [← hK] at hIk'
      have hkm' := wKept_mem h5 (i + 1) (by omega)
      have hkl' := wKept_len ns (i + 1)
      have hkv' := hIk'.length
      have hown : ∀ p ∈ (lR, listOf rv.toArray rc) :: (lD, listOf lv.toArray lc) :: (s.heap.objs.size + 1, o2) :: own', p.1 ≠ lK := by
        intro p hp
        simp only [List.mem_cons] at hp
        rcases hp with rfl | rfl | rfl | hp
        · exact (Nat.ne_of_lt l2.1).symm
        · exact (Nat.ne_of_lt l3.2.1).symm
        · exact Nat.ne_of_lt l1
        · exact ho' p hp _ (.head _)
      replace F := frBut F st (N _ (.head _)).2.2 (N _ (.head _)).2.1.symm
      replace N := newsBut N st hown hget
      clear st hget hown
      dsimp only at F N ⊢
      k_steps
      · have hc9 : i + 1 < 5 := by omega
        have hR9 : wRows ns (i + 1) = wRows ns i ++ [wKept ns (i + 1)] := by rw [wRows, if_pos hc9]
        constructor
        rename Fr _ _ _ _ => F
        rename News _ _ _ _ => N
        rename_i Dr cr _ lr _
        refine' ListComp_ov (fun _ => true) (IsPiece ls) rfl ?h11 rfl ?h12 rfl ?_
        (case h11 => decide)
        (case h12 => decide)
        k_steps
        constructor
        rename Fr _ _ _ _ => F
        rename News _ _ _ _ => N
        refine' compE_list rfl (PySem.IsL.isList (News.get N (by k_mem))) ?hsz F N ?test ?elt ?fin4
        (case hsz => rw [sizeLine_eq]; omega)
        (case test => exact fun _ _ _ => rfl)
        (case elt =>
          clear F N
          intro j v4 hv4 _ C u4 s4 F N
          obtain ⟨t4, rfl⟩ := hIk'.int_at j v4 hv4
          have hj : j < (wKept ns (i + 1)).length := by
            have := (List.getElem?_eq_some_iff.mp hv4).1
            omega
          have hz := hkm' _ (getD_mem (k := j) hj)
          generalize (wKept ns (i + 1)).getD j 0 = z at *
          have hlz := hls.2 _ (getD_mem (k := z.toNat) (by omega : z.toNat < ls.length))
          have hls1 := hls.1
          k_steps
          · exact ⟨z, t4, _, rfl, rfl⟩
          · exact ⟨_, _, rfl, fun _ _ e => e⟩)
        (case fin4 =>
          intro D4 h5' tk5 n5 ws hP4 hD4 st hget
          have hS4 := pieces hIk' hP4
          have hFew4 := pieces_few hls (by omega) hkm'
          have hJ := few_join0 hFew4
          have hsp := spaces_len' hbl
          have hsz := lead_size (b := blanks) hJ hbl
          unfold leadStr at hsz
          replace N := newsMore F (newsStays N st) hD4 hget
          replace F := frStays F st
          clear hP4 hD4 st hget
          dsimp only at F N ⊢
          k_steps
          constructor
          refine' call_cls F Xg N ?m1 ?m2 ?m3 ?_
          (case m1 => k_is)
          (case m2 => k_is)
          (case m3 => k_is)
          intro x6 d6 h6 F6 N6 l6 l6'
          refine' init_spec Xg Tg F6.keep ?m4 (Nat.ne_of_gt l6') ?m5 ?m6 hsz ?_
          (case m4 =>
            intro p hp
            simp only [List.mem_cons, List.not_mem_nil, or_false] at hp
            rcases hp with rfl | rfl
            · exact ⟨(N6 _ (.head _)).1, (N6 _ (.head _)).2.2⟩
            · exact ⟨(N6 _ (.tail _ (.head _))).1, (N6 _ (.tail _ (.head _))).2.2⟩)
          (case m5 => first | exact room2 hroom rfl | exact room3 hroom rfl)
          (case m6 => exact room3 hun rfl)
          intro h7 tk7 ex7 st7 hLd hEx
          obtain ⟨F7, N7, hdj⟩ := newsInit F6 N6 l6 l6' st7 hEx
          clear F6 N6 l6 l6' st7 hEx F N
          refine ⟨rfl, ?_⟩
          dsimp only at F7 N7 ⊢
          obtain ⟨own7, ho7, hc1, hc2, hc3, N8⟩ : ∃ own7, OwnOff own7 [lK, lR, lD, s.heap.objs.size + 1] ∧ (Dr, listOf kv'.toArray cr) ∈ own7 ∧ (∀ p ∈ ex7, p ∈ own7) ∧ (∀ p ∈ own', p ∈ own7) ∧
              News g (s.heap.objs.size) h7 ((lK, listOf kv'.toArray (kc + 1)) :: (lR, listOf (rv.toArray.push (Value.ref Dr)) (rc + 1)) :: (lD, listOf lv.toArray lc) :: (s.heap.objs.size + 1, o2) :: own7) := by
            refine ⟨(Dr, listOf kv'.toArray cr) :: (ex7 ++ own'), ?_, .head _, fun p hp => .tail _ (List.mem_append_left _ hp), fun p hp => .tail _ (List.mem_append_right _ hp), cb_drop N7 fun p hp => ?_⟩
            · obtain ⟨r1, r2, r3, r4, r5⟩ := lr
              intro p hp b hb
              rcases List.mem_cons.mp hp with rfl | hp
              · simp only [List.mem_cons, List.not_mem_nil, or_false] at hb
                rcases hb with rfl | rfl | rfl | rfl
                · exact Nat.ne_of_gt r1
                · exact Nat.ne_of_gt r2
                · exact Nat.ne_of_gt r3
                · exact Nat.ne_of_gt r4
              rcases List.mem_append.mp hp with hp | hp
              · simp only [List.mem_cons, List.not_mem_nil, or_false] at hb
                rcases hb with rfl | rfl | rfl | rfl
                · exact hdj p hp (_, _) (.tail _ (.tail _ (.head _)))
                · exact hdj p hp (_, _) (.tail _ (.tail _ (.tail _ (.head _))))
                · exact hdj p hp (_, _) (.tail _ (.tail _ (.tail _ (.tail _ (.head _)))))
                · exact hdj p hp (_, _) (.tail _ (.tail _ (.tail _ (.tail _ (.tail _ (.head _))))))
              · exact ho' p hp b hb
            · simp only [List.mem_cons, List.mem_append] at hp ⊢
              grind
          have hdj' : ∀ p ∈ ex7, ∀ q ∈ own', p.1 ≠ q.1 := fun p hp q hq => hdj p hp q (by simp only [List.mem_cons]; grind)
          clear N7 hdj
          k_steps
          rename Fr _ _ _ _ => F9
          rename News _ _ _ _ => N9
          have hs1 : ∀ p ∈ ex, p ∈ (Dr, listOf kv'.toArray cr) :: (ex7 ++ ex) := fun p hp => .tail _ (List.mem_append_right _ hp)
          have hs2 : ∀ p ∈ ex7, p ∈ (Dr, listOf kv'.toArray cr) :: (ex7 ++ ex) := fun p hp => .tail _ (List.mem_append_left _ hp)
          refine hQ0 _ _ ?_; refine' StepF.next ⟨kv', kc + 1, rv.concat (.ref Dr), rc + 1, lv.concat (.ref x6), lc + 1, wFlags ns (i + 1), tf2, (Dr, listOf kv'.toArray cr) :: (ex7 ++ ex)⟩ F9 ?hm3 ?N3 ?ho3 ?hP3
          (case hm3 => walk_at "my names")
          (case N3 =>
            refine cb_drop N9 fun p hp => ?_
            simp only [List.cons_append, List.append_assoc, List.mem_cons, List.mem_append] at hp
            simp only [List.mem_cons]
            rcases hp with rfl | rfl | rfl | rfl | rfl | hp | hp | hp
            · exact .inl rfl
            · exact .inr (.inl rfl)
            · exact .inr (.inr (.inl rfl))
            · exact .inr (.inr (.inr (.inl rfl)))
            · exact .inr (.inr (.inr (.inr hc1)))
            · exact .inr (.inr (.inr (.inr (hc2 _ hp))))
            · exact .inr (.inr (.inr (.inr (hc3 _ (he1 _ hp)))))
            · exact .inr (.inr (.inr (.inr (hc3 _ (he2 _ hp))))))
          (case ho3 =>
            intro p hp b hb
            dsimp only at hb
            simp only [List.map_cons, List.map_append, List.mem_cons, List.mem_append] at hb
            rcases hb with rfl | rfl | rfl | rfl | rfl | hb | hb
            · exact ho p hp _ (.head _)
            · exact ho p hp _ (.tail _ (.head _))
            · exact ho p hp _ (.tail _ (.tail _ (.head _)))
            · exact ho p hp _ (.tail _ (.tail _ (.tail _ (.head _))))
            · exact Nat.ne_of_lt (allLt_mem lr.2.2.2.2 p (he2 p hp))
            · obtain ⟨q, hq, rfl⟩ := List.mem_map.mp hb
              exact (hdj' q hq p (he2 p hp)).symm
            · exact ho p hp _ (.tail _ (.tail _ (.tail _ (.tail _ hb)))))
          (case hP3 =>
            dsimp only
            rw [hR9, List.concat_eq_append, List.concat_eq_append]
            refine ⟨hIk', rfl, All2.snoc ⟨Dr, kv', cr, rfl, .head _, hIk'⟩ (hA.mono fun a b hab => hab.more hs1), All2.snoc (R := fun v kn => LeadEx w.params _ v (wsOf (leadStr ls blanks kn))) (LeadEx.more hLd hs2) (hB.mono fun a b hab => hab.more hs1), fun p hp b hb => ?_⟩
            rcases List.mem_cons.mp hp with rfl | hp
            · exact ho7 _ hc1 b hb
            rcases List.mem_append.mp hp with hp | hp
            · exact ho7 p (hc2 p hp) b hb
            · exact hx p hp b hb))
      · have hc9 : ¬ (i + 1 < 5) := by omega
        have hR9 : wRows ns (i + 1) = wRows ns i := by rw [wRows, if_neg hc9]
        refine hQ0 _ _ ?_; refine' StepF.next ⟨kv', kc + 1, rv, rc, lv, lc, wFlags ns (i + 1), tf2, ex⟩ F ?hm3 ?N3 ?ho3 ?hP3
        (case hm3 => walk_at "my names")
        (case N3 =>
          refine cb_drop N fun p hp => ?_
          simp only [List.cons_append, List.mem_cons, List.mem_append] at hp ⊢
          rcases hp with rfl | rfl | rfl | rfl | hp | hp
          · simp
          · simp
          · simp
          · simp
          · simp [he1 _ hp]
          · simp [he2 _ hp])
        (case ho3 => exact ho)
        (case hP3 =>
          dsimp only
          rw [hR9]
          exact ⟨hIk', rfl, hA, hB, hx⟩)))
  (case fin =>
    clear F N
    rintro ⟨kv, kc, rv, rc, lv, lc, f, tf, ex⟩ u h₂ tk₂ ⟨rfl, hA, hB⟩ F N
    dsimp only [ov, List.map] at F N hA hB ⊢
    k_steps
    rename Fr _ _ _ _ => F9
    rename News _ _ _ _ => N9
    have hnew : ∀ p, p ∈ _ → _ := fun p hp => newsOff (as := []) (fun h' k => kg h' k) N9 hp
    refine h _ lR lD tf rv lv rc lc ex _ _ (fun b o e => kg _ F9.keep b o (List.not_mem_nil) e) hA hB (fun p hp => ?_) (fun p hp => ?_)
    · have := hnew p (.tail _ (.tail _ (.tail _ (.tail _ (.tail _ hp)))))
      exact ⟨this.1, this.2.resolve_left List.not_mem_nil⟩
    · have := hnew p (by
        simp only [List.mem_cons, List.not_mem_nil, or_false] at hp ⊢
        rcases hp with rfl | rfl | rfl
        · exact .inl rfl
        · simp
        · simp)
      exact ⟨this.1, this.2.resolve_left List.not_mem_nil⟩)
end

section
open PySem PySem.W PyProof.Rows PySem.Calls PyProof.V
set_option maxRecDepth 100000
theorem slice3_ints {prog : Program} {w : World} {A : Around} {E : Value → Shared → Prop} {s : Shared} {h₀ : Heap} {L l : Addr} {m : Str → Option Value} {news : List (Addr × Obj)} {vs : List Value} {ns : List Int} {vl vu vk : Value} {lo hi st : Option Int} {ops : List Value} {value slice : PySem.Expr} {Q : Value → Shared → Prop}
    (F : Fr h₀ L s.heap m) (N : News h₀ L s.heap news) (hl : s.heap.IsList l vs.toArray) (pl : IsPart vl lo) (pu : IsPart vu hi) (pk : IsPart vk st) (h0 : st ≠ some 0) (hI : IntsAre vs ns)
    (h : ∀ D ws ms h', Fr h₀ L h' m → News h₀ L h' ((D, listOf (List.toArray ws) 0) :: news) → (∀ p ∈ news, p.1 < D) → IntsAre ws ms → ms.length ≤ ns.length → Q (.ref D) { s with heap := h' })
    (hs : subscripted slice false (.ref l) (.ref s.heap.objs.size) = operate ops (getItem (.ref l) (.ref s.heap.objs.size))) (ht : ∀ r, letTemporaryGo value (.ref l) r = pure ()) (hz : vs.toArray.size ≤ sizeLine) :
    wpAny (model prog w) A (subscriptTail value slice (.ref l) (.ref s.heap.objs.size)) Q E { s with heap := s.heap.push { cls := .type "slice", data := .fields #[vl, vu, vk] } } := by
  refine kmk_slice3_lit F N hl pl pu pk h0 rfl (fun D h' F' N' l1 => h D _ _ h' F' N' l1 (hI.pick lo hi st) ?_) hs ht hz
  have q := slicePick_size_le vs.toArray lo hi st
  have e := (hI.pick lo hi st).length
  have e2 := hI.length
  rw [← e, ← e2, Array.length_toList]
  simpa using q
theorem newsMoreL {g h h' : Heap} {L : Addr} {m : Str → Option Value} {news ex : List (Addr × Obj)} (F : Fr g L h m) (N : News g L h' news) (hx : ∀ p ∈ ex, h'.get? p.1 = some p.2 ∧ h.get? p.1 = none) : News g L h' (ex ++ news) := by
  obtain ⟨oL, _, _, hL, _⟩ := F.ns
  intro p hp
  rcases List.mem_append.mp hp with hp | hp
  · obtain ⟨h1, h2⟩ := hx p hp
    refine ⟨h1, fun e => (by rw [e, hL] at h2; cases h2), ?_⟩
    cases q : g.get? p.1 with
    | none => rfl
    | some o => rw [F.keep _ _ q] at h2; cases h2
  · exact N p hp
theorem exOff {g h h' : Heap} {L : Addr} {news ex : List (Addr × Obj)} (N : News g L h news) (hx : ∀ p ∈ ex, h'.get? p.1 = some p.2 ∧ h.get? p.1 = none) : ∀ p ∈ ex, ∀ q ∈ news, p.1 ≠ q.1 := fun p hp q hq e => by
  have := (N q hq).1
  rw [← e, (hx p hp).2] at this; cases this
theorem newsMove {g h : Heap} {L : Addr} {A ex B C : List (Addr × Obj)} (N : News g L h (A ++ (ex ++ B))) (hC : ∀ p ∈ C, p ∈ B) : News g L h (A ++ (C ++ ex)) := fun p hp => N p (by
  rcases List.mem_append.mp hp with h | h
  · exact List.mem_append_left _ h
  · rcases List.mem_append.mp h with h | h
    · exact List.mem_append_right _ (List.mem_append_right _ (hC p h))
    · exact List.mem_append_right _ (List.mem_append_left _ h))
theorem newsMove2 {g h : Heap} {L : Addr} {A ex R C ex1 : List (Addr × Obj)} (N : News g L h (A ++ (ex ++ R))) (hC : ∀ p ∈ C ++ ex1, p ∈ R) : News g L h (A ++ (C ++ (ex ++ ex1))) := fun p hp => N p (by
  rcases List.mem_append.mp hp with h | h
  · exact List.mem_append_left _ h
  · rcases List.mem_append.mp h with h | h
    · exact List.mem_append_right _ (List.mem_append_right _ (hC p (List.mem_append_left _ h)))
    · rcases List.mem_append.mp h with h | h
      · exact List.mem_append_right _ (List.mem_append_left _ h)
      · exact List.mem_append_right _ (List.mem_append_right _ (hC p (List.mem_append_right _ h))))
theorem ls_ok {a : Int} (h : 0 ≤ a ∧ a < 4) : ([a, 4, 5, 6, 7] : List Int).length = 5 ∧ ∀ x ∈ ([a, 4, 5, 6, 7] : List Int), 0 ≤ x ∧ x ≤ 7 := by
  refine ⟨rfl, fun x hx => ?_⟩
  simp only [List.mem_cons, List.not_mem_nil, or_false] at hx
  omega
theorem offC_of {L d : Nat} {news : List (Addr × Obj)} {o1 o2 o3 o4 o5 o6 : Obj} (h : ∀ q ∈ news, @Ne Nat d q.1) (m1 : (L + 1, o6) ∈ news) (m2 : (L + 1 + 1, o5) ∈ news) (m3 : (L + 1 + 1 + 1, o4) ∈ news) (m4 : (L + 1 + 1 + 1 + 1, o3) ∈ news) (m5 : (L + 1 + 1 + 1 + 1 + 1, o2) ∈ news) (m6 : (L + 1 + 1 + 1 + 1 + 1 + 1, o1) ∈ news) :
    d ≠ L + 1 ∧ d ≠ L + 1 + 1 ∧ d ≠ L + 1 + 1 + 1 ∧ d ≠ L + 1 + 1 + 1 + 1 ∧ d ≠ L + 1 + 1 + 1 + 1 + 1 ∧ d ≠ L + 1 + 1 + 1 + 1 + 1 + 1 := ⟨h _ m1, h _ m2, h _ m3, h _ m4, h _ m5, h _ m6⟩
theorem shl_nat {f b : Int} (hf : 0 ≤ f ∧ f < 1024) (hb : 0 ≤ b ∧ b < 23) : ∃ n : Nat, f * 2 ^ b.toNat = (n : Int) ∧ n < 4294967296 ∧ n = f.toNat * 2 ^ b.toNat := by
  refine ⟨f.toNat * 2 ^ b.toNat, ?_, ?_, rfl⟩
  · have e : f = ((f.toNat : Nat) : Int) := by omega
    conv => lhs; rw [e]
    push_cast
    rfl
  · have h1 : 2 ^ b.toNat ≤ 2 ^ 22 := Nat.pow_le_pow_right (by decide) (by omega)
    have h2 : f.toNat ≤ 1023 := by omega
    exact Nat.lt_of_le_of_lt (Nat.mul_le_mul h2 h1) (by decide)
end

section
open PySem PySem.W PyProof.Rows PySem.Calls PyProof.V PySem.Spec PySem.SeqAt
set_option maxRecDepth 100000
theorem readsAll_bools {h : Heap} : ∀ bs : List Bool, ReadsAll h (bs.map Value.bool) (bs.map PyData.bool) []
  | [] => .nil
  | b :: r => by
    have := ReadsAll.cons (Reads.bool (h := h) b) (readsAll_bools (h := h) r)
    simpa using this
theorem reads_bools {h : Heap} {a : Addr} {bs : List Bool} (hl : h.IsList a (bs.map Value.bool).toArray) : Reads h (.ref a) (.list (bs.map PyData.bool)) [a] := by
  obtain ⟨o, ho, hc, n, hd⟩ := hl
  exact Reads.list ho hc hd (by simpa using readsAll_bools bs)
theorem canLayAll0_bools : ∀ bs : List Bool, PyData.canLayAll0 (bs.map PyData.bool) = true
  | [] => by simp [PyData.canLayAll0]
  | n :: r => by simp [PyData.canLayAll0, PyData.canLay0, canLayAll0_bools r]
theorem depthAll_bools : ∀ bs : List Bool, PyData.depthAll (bs.map PyData.bool) ≤ 1
  | [] => by simp [PyData.depthAll]
  | n :: r => by
    have := depthAll_bools r
    simp only [List.map_cons, PyData.depthAll, PyData.depth]
    omega
theorem shaped_bools (bs : List Bool) : shaped (.list (bs.map PyData.bool)) = true := by
  have h1 := depthAll_bools bs
  have h2 : PyData.depth (.list (bs.map PyData.bool)) ≤ 64 := by simp only [PyData.depth]; omega
  show (PyData.canLay0 (.list (bs.map PyData.bool)) && decide (PyData.depth (.list (bs.map PyData.bool)) ≤ 64)) = true
  rw [Bool.and_eq_true]
  exact ⟨by simp only [PyData.canLay0]; exact canLayAll0_bools bs, decide_eq_true h2⟩
theorem noMix_bools : ∀ bs cs : List Bool, noMixAll (bs.map PyData.bool) (cs.map PyData.bool) = true
  | [], [] => by simp [noMixAll]
  | [], _ :: _ => by simp [noMixAll]
  | _ :: _, [] => by simp [noMixAll]
  | _ :: r, _ :: q => by simp [noMixAll, noMix, noMix_bools r q]
theorem same_bools : ∀ bs cs : List Bool, PySem.Spec.sameAll (bs.map PyData.bool) (cs.map PyData.bool) = decide (bs = cs)
  | [], [] => by simp [PySem.Spec.sameAll]
  | [], _ :: _ => by simp [PySem.Spec.sameAll]
  | _ :: _, [] => by simp [PySem.Spec.sameAll]
  | n :: r, k :: q => by
    simp only [List.map_cons, PySem.Spec.sameAll, PySem.Spec.same, same_bools r q]
    cases n <;> cases k <;> by_cases h' : r = q <;> simp [h']
theorem readsAll_strs {h : Heap} : ∀ {vs : List Value} {xs : List Str}, StrsAre vs xs → ReadsAll h vs (xs.map PyData.str) []
  | _, _, .nil => .nil
  | _, _, .cons k t r => by
    have := ReadsAll.cons (Reads.str (h := h) k t) (readsAll_strs (h := h) r)
    simpa using this
theorem reads_strs {h : Heap} {a : Addr} {vs : List Value} {xs : List Str} (hl : h.IsList a vs.toArray) (hi : StrsAre vs xs) : Reads h (.ref a) (.list (xs.map PyData.str)) [a] := by
  obtain ⟨o, ho, hc, n, hd⟩ := hl
  exact Reads.list ho hc hd (by simpa using readsAll_strs hi)
theorem canLayAll0_strs : ∀ bs : List Str, (∀ x ∈ bs, PyData.strOk x = true) → PyData.canLayAll0 (bs.map PyData.str) = true
  | [], _ => by simp [PyData.canLayAll0]
  | n :: r, h => by simp [PyData.canLayAll0, PyData.canLay0, canLayAll0_strs r fun x hx => h x (.tail _ hx), h n (.head _)]
theorem depthAll_strs : ∀ bs : List Str, PyData.depthAll (bs.map PyData.str) ≤ 1
  | [] => by simp [PyData.depthAll]
  | n :: r => by
    have := depthAll_strs r
    simp only [List.map_cons, PyData.depthAll, PyData.depth]
    omega
theorem shaped_strs (bs : List Str) (hb : ∀ x ∈ bs, PyData.strOk x = true) : shaped (.list (bs.map PyData.str)) = true := by
  have h1 := depthAll_strs bs
  have h2 : PyData.depth (.list (bs.map PyData.str)) ≤ 64 := by simp only [PyData.depth]; omega
  show (PyData.canLay0 (.list (bs.map PyData.str)) && decide (PyData.depth (.list (bs.map PyData.str)) ≤ 64)) = true
  rw [Bool.and_eq_true]
  exact ⟨by simp only [PyData.canLay0]; exact canLayAll0_strs bs hb, decide_eq_true h2⟩
theorem noMix_strs : ∀ bs cs : List Str, noMixAll (bs.map PyData.str) (cs.map PyData.str) = true
  | [], [] => by simp [noMixAll]
  | [], _ :: _ => by simp [noMixAll]
  | _ :: _, [] => by simp [noMixAll]
  | _ :: r, _ :: q => by simp [noMixAll, noMix, noMix_strs r q]
theorem same_strs : ∀ bs cs : List Str, PySem.Spec.sameAll (bs.map PyData.str) (cs.map PyData.str) = decide (bs = cs)
  | [], [] => by simp [PySem.Spec.sameAll]
  | [], _ :: _ => by simp [PySem.Spec.sameAll]
  | _ :: _, [] => by simp [PySem.Spec.sameAll]
  | n :: r, k :: q => by
    simp only [List.map_cons, PySem.Spec.sameAll, PySem.Spec.same, same_strs r q]
    by_cases h : n = k <;> by_cases h' : r = q <;> simp [h, h']
section
variable {prog : Program} {w : World} {A : Around} {E : Value → Shared → Prop} {s : Shared}
theorem eq_bools {a b : Addr} {bs cs : List Bool} {Q : Value → Shared → Prop} (hl : s.heap.IsList a (bs.map Value.bool).toArray) (hl' : s.heap.IsList b (cs.map Value.bool).toArray) (hu : A.units + 64 < cLine)
    (h : Q (.bool (decide (bs = cs))) s) : wpAny (model prog w) A (compareOp .Eq (.ref a) (.ref b)) Q E s :=
  eq_dataH_same (reads_bools hl) (reads_bools hl') (shaped_bools bs) (shaped_bools cs) hu (by simp only [noMix]; exact noMix_bools bs cs) (by simp only [PySem.Spec.same]; rw [same_bools]; exact h)
theorem ne_bools {a b : Addr} {bs cs : List Bool} {Q : Value → Shared → Prop} (hl : s.heap.IsList a (bs.map Value.bool).toArray) (hl' : s.heap.IsList b (cs.map Value.bool).toArray) (hu : A.units + 64 < cLine)
    (h : Q (.bool (!decide (bs = cs))) s) : wpAny (model prog w) A (compareOp .NotEq (.ref a) (.ref b)) Q E s :=
  ne_dataH_same (reads_bools hl) (reads_bools hl') (shaped_bools bs) (shaped_bools cs) hu (by simp only [noMix]; exact noMix_bools bs cs) (by simp only [PySem.Spec.same]; rw [same_bools]; exact h)
theorem eq_strs {a b : Addr} {vs us : List Value} {xs ys : List Str} {Q : Value → Shared → Prop} (hl : s.heap.IsList a vs.toArray) (hi : StrsAre vs xs) (hl' : s.heap.IsList b us.toArray) (hi' : StrsAre us ys) (ok1 : ∀ x ∈ xs, PyData.strOk x = true) (ok2 : ∀ x ∈ ys, PyData.strOk x = true) (hu : A.units + 64 < cLine)
    (h : Q (.bool (decide (xs = ys))) s) : wpAny (model prog w) A (compareOp .Eq (.ref a) (.ref b)) Q E s :=
  eq_dataH_same (reads_strs hl hi) (reads_strs hl' hi') (shaped_strs xs ok1) (shaped_strs ys ok2) hu (by simp only [noMix]; exact noMix_strs xs ys) (by simp only [PySem.Spec.same]; rw [same_strs]; exact h)
theorem ne_strs {a b : Addr} {vs us : List Value} {xs ys : List Str} {Q : Value → Shared → Prop} (hl : s.heap.IsList a vs.toArray) (hi : StrsAre vs xs) (hl' : s.heap.IsList b us.toArray) (hi' : StrsAre us ys) (ok1 : ∀ x ∈ xs, PyData.strOk x = true) (ok2 : ∀ x ∈ ys, PyData.strOk x = true) (hu : A.units + 64 < cLine)
    (h : Q (.bool (!decide (xs = ys))) s) : wpAny (model prog w) A (compareOp .NotEq (.ref a) (.ref b)) Q E s :=
  ne_dataH_same (reads_strs hl hi) (reads_strs hl' hi') (shaped_strs xs ok1) (shaped_strs ys ok2) hu (by simp only [noMix]; exact noMix_strs xs ys) (by simp only [PySem.Spec.same]; rw [same_strs]; exact h)
theorem ne_strs_same {a b : Addr} {vs us : List Value} {xs : List Str} {Q : Value → Shared → Prop} (hl : s.heap.IsList a vs.toArray) (hi : StrsAre vs xs) (hl' : s.heap.IsList b us.toArray) (hi' : StrsAre us xs) (ok1 : ∀ x ∈ xs, PyData.strOk x = true) (hu : A.units + 64 < cLine)
    (h : Q (.bool false) s) : wpAny (model prog w) A (compareOp .NotEq (.ref a) (.ref b)) Q E s :=
  ne_strs hl hi hl' hi' ok1 ok1 hu (by rw [decide_eq_true rfl]; exact h)
end
end

section
open PySem PySem.W PyProof.Rows PySem.Calls PyProof.V
set_option maxRecDepth 100000
noncomputable def inserts (x : Int) : List Int → List (List Int)
  | [] => [[x]]
  | y :: r => (x :: y :: r) :: (inserts x r).map (y :: ·)
noncomputable def permsOf : List Int → List (List Int)
  | [] => [[]]
  | x :: r => (permsOf r).flatMap (inserts x)
noncomputable def perms5 : List (List Int) := permsOf [0, 1, 2, 3, 4]
theorem id_perm : [0, 1, 2, 3, 4] ∈ perms5 := by decide +kernel
theorem perms_five : (perms5.all fun p => decide (p.length = 5) && p.all fun x => decide (0 ≤ x) && decide (x < 5)) = true := by decide +kernel
theorem perm_five {p : List Int} (hp : p ∈ perms5) : Five p := by
  have h := List.all_eq_true.mp perms_five p hp
  simp only [Bool.and_eq_true, decide_eq_true_eq, List.all_eq_true] at h
  exact ⟨h.1, fun x hx => h.2 x hx⟩
noncomputable def dig5 : List Int := [0, 1, 2, 3, 4]
noncomputable def isPerm (q : List Int) : Bool := dig5.all fun x => q.contains x
noncomputable def all5 : List (List Int) := dig5.flatMap fun a => dig5.flatMap fun b => dig5.flatMap fun c => dig5.flatMap fun d => dig5.map fun e => [a, b, c, d, e]
theorem perm_all : (all5.all fun q => !isPerm q || perms5.contains q) = true := by decide +kernel
theorem exch_all : (perms5.all fun p => (List.range 5).all fun i => (List.range 5).all fun j => isPerm (exch p (i : Int) (j : Int))) = true := by decide +kernel
theorem mem_dig {x : Int} (h : 0 ≤ x ∧ x < 5) : x ∈ dig5 := by
  have : x = 0 ∨ x = 1 ∨ x = 2 ∨ x = 3 ∨ x = 4 := by omega
  rcases this with rfl | rfl | rfl | rfl | rfl <;> decide
theorem mem_all5 : ∀ q : List Int, q.length = 5 → (∀ x ∈ q, 0 ≤ x ∧ x < 5) → q ∈ all5
  | [a, b, c, d, e], _, h =>
    List.mem_flatMap.mpr ⟨a, mem_dig (h a (.head _)), List.mem_flatMap.mpr ⟨b, mem_dig (h b (.tail _ (.head _))), List.mem_flatMap.mpr ⟨c, mem_dig (h c (.tail _ (.tail _ (.head _)))),
      List.mem_flatMap.mpr ⟨d, mem_dig (h d (.tail _ (.tail _ (.tail _ (.head _))))), List.mem_map.mpr ⟨e, mem_dig (h e (.tail _ (.tail _ (.tail _ (.tail _ (.head _)))))), rfl⟩⟩⟩⟩⟩
theorem exch_perm {p : List Int} {i j : Int} (hp : p ∈ perms5) (hi : 0 ≤ i ∧ i < 5) (hj : 0 ≤ j ∧ j < 5) : exch p i j ∈ perms5 := by
  have h5 := perm_five hp
  have hl := h5.1
  have h := List.all_eq_true.mp (List.all_eq_true.mp (List.all_eq_true.mp exch_all p hp) i.toNat (List.mem_range.mpr (by omega))) j.toNat (List.mem_range.mpr (by omega))
  rw [Int.toNat_of_nonneg hi.1, Int.toNat_of_nonneg hj.1] at h
  have hm := mem_all5 (exch p i j) (by rw [exch_length, hl]) (fun x hx => h5.2 x (exch_mem (by omega) (by omega) hx))
  have hq := List.all_eq_true.mp perm_all _ hm
  rw [h] at hq
  exact List.contains_iff_mem.mp (by simpa using hq)
theorem flags_all : (perms5.all fun p => decide (0 ≤ wFlags p 5) && decide (wFlags p 5 < 1024)) = true := by decide +kernel
theorem flags_ok {p : List Int} (hp : p ∈ perms5) : 0 ≤ wFlags p 5 ∧ wFlags p 5 < 1024 := by
  have h := List.all_eq_true.mp flags_all p hp
  simpa only [Bool.and_eq_true, decide_eq_true_eq] using h
end

section
open PySem PySem.W PyProof.Rows PySem.Calls PyProof.V
set_option maxRecDepth 100000
noncomputable def comma : Str := Str.ofString ", "
theorem comma_is : comma.cps.toList = [44, 32] := by decide +kernel
theorem comma_len : comma.length = 2 := by decide +kernel
theorem at_iff {x : Str} {i : Nat} : StrLaws.At x comma x.length i ↔ x.cps.toList[i]? = some 44 ∧ x.cps.toList[i + 1]? = some 32 := by
  unfold StrLaws.At
  rw [StrLaws.subAt_eq, comma_is, comma_len]
  have hn : x.cps.toList.length = x.length := by simp [Str.length]
  rw [← hn]
  generalize x.cps.toList = L
  constructor
  · rintro ⟨h1, h2⟩
    have h2 := eq_of_beq h2
    constructor
    · have := congrArg (·[0]?) h2
      simpa using this
    · have := congrArg (·[1]?) h2
      simpa using this
  · rintro ⟨h1, h2⟩
    obtain ⟨l1, e1⟩ := List.getElem?_eq_some_iff.mp h1
    obtain ⟨l2, e2⟩ := List.getElem?_eq_some_iff.mp h2
    refine ⟨by omega, ?_⟩
    rw [List.drop_eq_getElem_cons l1, List.drop_eq_getElem_cons l2, e1, e2]
    rfl
theorem join_cons2 (w v : Str) (r : List Str) : (Str.join comma (w :: v :: r)).cps.toList = w.cps.toList ++ 44 :: 32 :: (Str.join comma (v :: r)).cps.toList := by
  show (w ++ comma ++ Str.join comma (v :: r)).cps.toList = _
  simp [Str.cps_append, comma_is]
theorem parts_words {x : Str} {f : Nat} : ∀ (ws : List Str) (a : Nat) (cuts : List Nat), ws ≠ [] → (∀ w ∈ ws, 44 ∉ w.cps.toList) → StrLaws.ChainG x comma x.length a cuts f → (∀ k, f ≤ k → ¬ StrLaws.At x comma x.length k) →
    x.cps.toList.drop a = (Str.join comma ws).cps.toList → a ≤ x.length → StrLaws.partsFrom x comma.length a cuts = ws
  | [], _, _, h, _, _, _, _, _ => absurd rfl h
  | [w], a, cuts, _, hw, hG, hn, hd, ha => by
    have hw := hw w (.head _)
    have hlen : x.cps.toList.length = x.length := by simp [Str.length]
    have hd : x.cps.toList.drop a = w.cps.toList := hd
    cases cuts with
    | nil =>
      show [Builtin.Str.strSub x a x.length] = [w]
      congr 1
      apply Str.ext'
      apply Array.toList_inj.mp
      rw [StrLaws.strSub_toList, hd, List.take_of_length_le]
      rw [← hd, List.length_drop]; omega
    | cons c r =>
      obtain ⟨h1, h2, _, _⟩ := hG
      have h2 := (at_iff.mp h2).1
      refine absurd ?_ hw
      rw [← hd]
      refine List.mem_of_getElem? (i := c - a) ?_
      rw [List.getElem?_drop, show a + (c - a) = c by omega]
      exact h2
  | w :: v :: r, a, cuts, _, hw, hG, hn, hd, ha => by
    have hw0 := hw w (.head _)
    have hlen : x.cps.toList.length = x.length := by simp [Str.length]
    rw [join_cons2] at hd
    have hat : ∀ i, x.cps.toList[a + i]? = (w.cps.toList ++ 44 :: 32 :: (Str.join comma (v :: r)).cps.toList)[i]? := fun i => by rw [← hd, List.getElem?_drop]
    have hA : StrLaws.At x comma x.length (a + w.cps.toList.length) := by
      refine at_iff.mpr ⟨?_, ?_⟩
      · rw [hat, List.getElem?_append_right (Nat.le_refl _), Nat.sub_self]; rfl
      · rw [Nat.add_assoc, hat, List.getElem?_append_right (Nat.le_succ _), Nat.succ_eq_add_one, Nat.add_sub_cancel_left]; rfl
    cases cuts with
    | nil =>
      have e : f = a := hG
      exact absurd hA (hn _ (by omega))
    | cons c q =>
      obtain ⟨h1, h2, h3, h4⟩ := hG
      have hc : c = a + w.cps.toList.length := by
        rcases Nat.lt_trichotomy c (a + w.cps.toList.length) with hlt | he | hgt
        · have h2 := (at_iff.mp h2).1
          refine absurd ?_ hw0
          refine List.mem_of_getElem? (i := c - a) ?_
          have := hat (c - a)
          rw [show a + (c - a) = c by omega, h2, List.getElem?_append_left (by omega)] at this
          exact this.symm
        · exact he
        · exact absurd hA (h3 _ (by omega) hgt)
      show Builtin.Str.strSub x a c :: StrLaws.partsFrom x comma.length (c + comma.length) q = w :: v :: r
      have hd2 : x.cps.toList.drop (c + comma.length) = (Str.join comma (v :: r)).cps.toList := by
        rw [hc, comma_len, Nat.add_assoc, ← List.drop_drop, hd, ← List.drop_drop, List.drop_left]
        rfl
      rw [parts_words (v :: r) (c + comma.length) q (by simp) (fun y hy => hw y (.tail _ hy)) h4 hn hd2 (by have := h2.1; exact this)]
      congr 1
      apply Str.ext'
      apply Array.toList_inj.mp
      rw [StrLaws.strSub_toList, hd, hc, Nat.add_sub_cancel_left, List.take_left]
theorem kind_one {x : Str} : 1 ≤ Builtin.Str.strKind x := by
  unfold Builtin.Str.strKind
  split
  · exact Nat.le_refl 1
  · split <;> omega
theorem comma_kind : Builtin.Str.strKind comma = 1 := by decide +kernel
theorem split_words {ws : List Str} (h0 : ws ≠ []) (hw : ∀ w ∈ ws, 44 ∉ w.cps.toList) : Txt.split (Str.join comma ws) comma = ws := by
  obtain ⟨f, hG, hn⟩ := StrLaws.occ_tight (Str.join comma ws) comma (by rw [comma_len]; decide)
  have key := parts_words ws 0 _ h0 hw hG hn (by simp) (Nat.zero_le _)
  unfold Txt.split
  split
  · rename_i hc
    rw [Bool.or_eq_true, decide_eq_true_eq, decide_eq_true_eq] at hc
    rcases hc with h | h
    · cases e : Builtin.Str.occurrences (Str.join comma ws) comma 0 (Str.join comma ws).length ((Str.join comma ws).length + 1) with
      | nil =>
        rw [e] at key
        have : [Builtin.Str.strSub (Str.join comma ws) 0 (Str.join comma ws).length] = ws := key
        rwa [StrLaws.sub_whole] at this
      | cons c q =>
        rw [e] at hG
        have := hG.2.1.1
        omega
    · have := @kind_one (Str.join comma ws)
      rw [comma_kind] at h; omega
  · split
    · rename_i he
      rw [List.isEmpty_iff.mp he] at key
      have : [Builtin.Str.strSub (Str.join comma ws) 0 (Str.join comma ws).length] = ws := key
      rwa [StrLaws.sub_whole] at this
    · rw [StrLaws.partsBetween_eq]
      exact key
end

section
open PySem PySem.W PyProof.Rows PySem.Calls PyProof.V
set_option maxRecDepth 100000
theorem bitAt_nat (F i : Nat) : bitAt (F : Int) i = F.testBit i := by
  unfold bitAt
  have e2 : (2 ^ i : Int) = ((2 ^ i : Nat) : Int) := by push_cast; rfl
  have e : (F : Int).fdiv (2 ^ i) = ((F / 2 ^ i : Nat) : Int) := by
    rw [e2]; exact (Int.ofNat_fdiv F (2 ^ i)).symm
  rw [e]
  unfold Builtin.bitAnd
  simp only [Int.natCast_nonneg, decide_true, Int.toNat_natCast]
  rw [Nat.testBit_eq_decide_div_mod_eq]
  have e3 : (F / 2 ^ i) &&& (1 : Int).toNat = F / 2 ^ i % 2 := Nat.and_one_is_mod _
  show decide (((F / 2 ^ i &&& (1 : Int).toNat : Nat) : Int) = 1) = _
  rw [e3]
  have : F / 2 ^ i % 2 = 0 ∨ F / 2 ^ i % 2 = 1 := by omega
  rcases this with h | h <;> simp [h]
theorem low_zero (F B : Nat) : ∀ i, i ≤ B → pWords (F * 2 ^ B) i = []
  | 0, _ => rfl
  | i + 1, h => by
    show pWords _ i ++ _ = _
    rw [low_zero F B i (by omega), Nat.mul_comm, Nat.testBit_two_pow_mul]
    simp; omega
theorem words_up (F B : Nat) : ∀ i, pWords (F * 2 ^ B) (B + i) = lawWords (F : Int) (B : Int) i
  | 0 => low_zero F B B (Nat.le_refl _)
  | i + 1 => by
    show pWords _ (B + i) ++ _ = lawWords _ _ i ++ _
    rw [words_up F B i, bitAt_nat, Nat.mul_comm, Nat.testBit_two_pow_mul]
    simp
theorem words_are {F B : Nat} (hF : F < 1024) (hB : B < 23) : pWords (F * 2 ^ B) 32 = lawWords (F : Int) (B : Int) 10 := by
  rw [← words_up, show 32 = (B + 10) + (22 - B) by omega]
  refine pWords_end ?_ _
  rw [Nat.pow_add, Nat.mul_comm]
  exact (Nat.mul_lt_mul_left (Nat.two_pow_pos B)).mpr (Nat.lt_of_lt_of_eq hF (by decide))
theorem pow_ne (F B : Nat) : F * 2 ^ B = 0 ↔ F = 0 := by
  have := Nat.two_pow_pos B
  rw [Nat.mul_eq_zero]; omega
theorem words_nil {n : Nat} (hn : n < 4294967296) (h : pWords n 32 = []) : n = 0 := by
  refine Nat.eq_of_testBit_eq fun j => ?_
  rw [Nat.zero_testBit]
  by_cases hj : j < 32
  · have key : ∀ i, pWords n i = [] → ∀ j, j < i → n.testBit j = false := by
      intro i
      induction i with
      | zero => intro _ j hj; omega
      | succ i ih =>
        intro h j hj
        have h' : pWords n i ++ (if n.testBit i then [wordAt (i : Int)] else []) = [] := h
        rw [List.append_eq_nil_iff] at h'
        by_cases e : j = i
        · subst e
          cases hb : n.testBit j
          · rfl
          · rw [hb] at h'; exact absurd h'.2 (by simp)
        · exact ih h'.1 j (by omega)
    exact key 32 h j hj
  · exact Nat.testBit_lt_two_pow (Nat.lt_of_lt_of_le hn (Nat.le_trans (by decide : 4294967296 ≤ 2 ^ 32) (Nat.pow_le_pow_right (by decide) (by omega))))
theorem wordAt_ne : ∀ i : Fin 32, (wordAt ((i : Nat) : Int)).cps.toList ≠ [] ∧ 44 ∉ (wordAt ((i : Nat) : Int)).cps.toList ∧ wordAt ((i : Nat) : Int) ≠ Str.ofString "0x0" := by decide +kernel
theorem wordAt_inj : ∀ i j : Fin 32, wordAt ((i : Nat) : Int) = wordAt ((j : Nat) : Int) → i = j := by decide +kernel
theorem mem_pWords {n : Nat} {x : Str} : ∀ {i : Nat}, x ∈ pWords n i ↔ ∃ j, j < i ∧ n.testBit j = true ∧ x = wordAt (j : Int)
  | 0 => by simp [pWords]
  | i + 1 => by
    rw [pWords, List.mem_append, mem_pWords (i := i)]
    constructor
    · rintro (⟨j, h1, h2, h3⟩ | h)
      · exact ⟨j, by omega, h2, h3⟩
      · cases hb : n.testBit i <;> rw [hb] at h
        · simp at h
        · exact ⟨i, by omega, hb, by simpa using h⟩
    · rintro ⟨j, h1, h2, h3⟩
      by_cases e : j = i
      · subst e; right; rw [h2]; simp [h3]
      · left; exact ⟨j, by omega, h2, h3⟩
theorem join_ne {ws : List Str} (h0 : ws ≠ []) (h : ∀ w ∈ ws, w.cps.toList ≠ []) (sep : Str) : Txt.join sep ws ≠ Str.empty := by
  show Builtin.Str.glued sep ws ≠ _
  rw [StrLaws.glued_eq_join]
  intro e
  have e := congrArg (fun s : Str => s.cps.toList) e
  match ws, h0, h, e with
  | [w], _, h, e => exact h w (.head _) e
  | w :: v :: r, _, h, e =>
    have e : (w ++ sep ++ Str.join sep (v :: r)).cps.toList = [] := e
    simp only [Str.cps_append, Array.toList_append, List.append_eq_nil_iff] at e
    exact h w (.head _) e.1.1
theorem pWords_free {n : Nat} : ∀ w ∈ pWords n 32, w.cps.toList ≠ [] ∧ 44 ∉ w.cps.toList ∧ w ≠ Str.ofString "0x0" := by
  intro w hw
  obtain ⟨j, h1, _, rfl⟩ := mem_pWords.mp hw
  exact wordAt_ne ⟨j, h1⟩
theorem law_pretty {f b : Int} (hf : 0 ≤ f ∧ f < 1024) (hb : 0 ≤ b ∧ b < 23) : lawText f b = prettyText (f.toNat * 2 ^ b.toNat) := by
  obtain ⟨F, rfl⟩ := Int.eq_ofNat_of_zero_le hf.1
  obtain ⟨B, rfl⟩ := Int.eq_ofNat_of_zero_le hb.1
  rw [Int.toNat_natCast, Int.toNat_natCast]
  unfold lawText prettyText
  dsimp only
  have hF : F < 1024 := by omega
  have hB : B < 23 := by omega
  rw [words_are hF hB]
  have hn : F * 2 ^ B < 4294967296 := by
    have h1 : 2 ^ B ≤ 2 ^ 22 := Nat.pow_le_pow_right (by decide) (by omega)
    have h2 : F * 2 ^ B ≤ 1023 * 2 ^ 22 := Nat.mul_le_mul (by omega) h1
    omega
  by_cases h : F * 2 ^ B = 0
  · rw [if_pos h]
    have : F = 0 := (pow_ne F B).mp h
    subst this
    have e : lawWords ((0 : Nat) : Int) (B : Int) 10 = [] := by
      rw [← words_are (by decide) hB, Nat.zero_mul, pWords_zero]
    rw [e]
    rfl
  · rw [if_neg h, if_neg]
    refine join_ne ?_ ?_ _
    · intro e
      rw [← words_are hF hB] at e
      exact h (words_nil hn e)
    · intro w hw
      rw [← words_are hF hB] at hw
      exact (pWords_free w hw).1
/-- the words behind a text -/
noncomputable def tWords (n : Nat) : List Str := if n = 0 then [Str.ofString "0x0"] else pWords n 32
theorem split_pretty {n : Nat} (hn : n < 4294967296) : Txt.split (prettyText n) comma = tWords n := by
  unfold prettyText tWords
  by_cases h : n = 0
  · rw [if_pos h, if_pos h]
    exact split_words (ws := [Str.ofString "0x0"]) (by simp) (by decide +kernel)
  · rw [if_neg h, if_neg h]
    show Txt.split (Builtin.Str.glued comma _) comma = _
    rw [StrLaws.glued_eq_join]
    exact split_words (fun e => h (words_nil hn e)) fun w hw => (pWords_free w hw).2.1
noncomputable def amongKept (n1 n2 : Nat) : List Str := (tWords n1).filter fun w => decide (w ≠ Str.ofString "0x0") && !decide (w ∈ tWords n2)
theorem among_iff {n1 n2 : Nat} : amongKept n1 n2 = [] ↔ ∀ j, j < 32 → n1.testBit j = true → n2.testBit j = true := by
  unfold amongKept
  rw [List.filter_eq_nil_iff]
  constructor
  · intro h j hj hb
    have hw : wordAt (j : Int) ∈ pWords n1 32 := mem_pWords.mpr ⟨j, hj, hb, rfl⟩
    have hn1 : n1 ≠ 0 := by rintro rfl; rw [Nat.zero_testBit] at hb; cases hb
    have h2 := h _ (by unfold tWords; rw [if_neg hn1]; exact hw)
    have hz := (wordAt_ne ⟨j, hj⟩).2.2
    dsimp only at hz
    simp only [hz, ne_eq, not_false_eq_true, decide_true, Bool.true_and, Bool.not_eq_true', decide_eq_false_iff_not, Decidable.not_not] at h2
    unfold tWords at h2
    split at h2
    · exact absurd (List.mem_singleton.mp h2) hz
    · obtain ⟨i, hi, hb2, e⟩ := mem_pWords.mp h2
      have := wordAt_inj ⟨j, hj⟩ ⟨i, hi⟩ e
      have e : j = i := congrArg Fin.val this
      rw [e]; exact hb2
  · intro h w hw
    unfold tWords at hw
    split at hw
    · rw [List.mem_singleton.mp hw]; simp
    · obtain ⟨j, hj, hb, rfl⟩ := mem_pWords.mp hw
      have hb2 := h j hj hb
      have hn2 : n2 ≠ 0 := by rintro rfl; rw [Nat.zero_testBit] at hb2; cases hb2
      have : wordAt (j : Int) ∈ tWords n2 := by unfold tWords; rw [if_neg hn2]; exact mem_pWords.mpr ⟨j, hj, hb2, rfl⟩
      simp [this]
theorem among_shift {F1 F2 B : Nat} (h1 : F1 < 1024) (hB : B < 23) : amongKept (F1 * 2 ^ B) (F2 * 2 ^ B) = [] ↔ F1 &&& F2 = F1 := by
  rw [among_iff]
  constructor
  · intro h
    refine Nat.eq_of_testBit_eq fun j => ?_
    rw [Nat.testBit_and]
    cases hb : F1.testBit j
    · rfl
    · have hj : j < 10 := by
        refine Nat.lt_of_not_le fun hge => ?_
        rw [Nat.testBit_lt_two_pow (Nat.lt_of_lt_of_le h1 (Nat.le_trans (by decide : 1024 ≤ 2 ^ 10) (Nat.pow_le_pow_right (by decide) hge)))] at hb
        cases hb
      have := h (B + j) (by omega) (by rw [Nat.mul_comm, Nat.testBit_two_pow_mul]; simp [hb])
      rw [Nat.mul_comm, Nat.testBit_two_pow_mul] at this
      simpa using this
  · intro h j _ hb
    rw [Nat.mul_comm, Nat.testBit_two_pow_mul] at hb ⊢
    rw [Bool.and_eq_true] at hb ⊢
    refine ⟨hb.1, ?_⟩
    have h2 := hb.2
    rw [← h, Nat.testBit_and, Bool.and_eq_true] at h2
    exact h2.2
theorem wordAt_ok : ∀ i : Fin 32, PyData.strOk (wordAt ((i : Nat) : Int)) = true := by decide +kernel
theorem ok_iff {x : Str} : PyData.strOk x = true ↔ ∀ c ∈ x.cps.toList, c < 0x110000 := by
  unfold PyData.strOk
  rw [← Array.all_toList, List.all_eq_true]
  simp
theorem join_ok {sep : Str} (hs : PyData.strOk sep = true) : ∀ ws : List Str, (∀ w ∈ ws, PyData.strOk w = true) → PyData.strOk (Str.join sep ws) = true
  | [], _ => by show PyData.strOk Str.empty = true; decide +kernel
  | [w], h => h w (.head _)
  | w :: v :: r, h => by
    have ih := join_ok hs (v :: r) fun x hx => h x (.tail _ hx)
    have hw := h w (.head _)
    rw [ok_iff] at *
    intro c hc
    have hc : c ∈ (w ++ sep ++ Str.join sep (v :: r)).cps.toList := hc
    simp only [Str.cps_append, Array.toList_append, List.mem_append] at hc
    rcases hc with (hc | hc) | hc
    · exact hw c hc
    · exact hs c hc
    · exact ih c hc
theorem pretty_ok (n : Nat) : PyData.strOk (prettyText n) = true := by
  unfold prettyText
  split
  · decide +kernel
  · show PyData.strOk (Builtin.Str.glued _ _) = true
    rw [StrLaws.glued_eq_join]
    refine join_ok (by decide +kernel) _ fun w hw => ?_
    obtain ⟨j, hj, _, rfl⟩ := mem_pWords.mp hw
    exact wordAt_ok ⟨j, hj⟩
theorem tWords_ok {n : Nat} : ∀ w ∈ tWords n, PyData.strOk w = true := by
  intro w hw
  unfold tWords at hw
  split at hw
  · rw [List.mem_singleton.mp hw]; decide +kernel
  · obtain ⟨j, hj, _, rfl⟩ := mem_pWords.mp hw
    exact wordAt_ok ⟨j, hj⟩
theorem pWords_len (n : Nat) : ∀ i, (pWords n i).length ≤ i
  | 0 => Nat.le_refl _
  | i + 1 => by
    rw [pWords, List.length_append]
    have := pWords_len n i
    split <;> simp <;> omega
theorem tWords_few (n : Nat) : Few 32 (tWords n) := by
  unfold tWords
  split
  · exact ⟨by decide, by decide +kernel⟩
  · refine ⟨pWords_len n 32, fun w hw => ?_⟩
    obtain ⟨j, hj, _, rfl⟩ := mem_pWords.mp hw
    exact (flagSize ⟨j, hj⟩).1
theorem pretty_len (n : Nat) : (prettyText n).length + 2 ≤ sizeLine := by
  have h : (prettyText n).length ≤ 1408 := by
    unfold prettyText
    split
    · decide +kernel
    · show (Builtin.Str.glued _ _).length ≤ _
      rw [StrLaws.glued_eq_join]
      refine Nat.le_trans (StrLaws.join_length_le _ _) ?_
      have h1 := pWords_len n 32
      have h2 := Few.sum (ss := pWords n 32) (fun w hw => by
        obtain ⟨j, hj, _, rfl⟩ := mem_pWords.mp hw
        exact (flagSize ⟨j, hj⟩).1)
      have h3 : (Str.ofString ", ").length = 2 := comma_len
      rw [h3]
      omega
  rw [sizeLine_eq]
  omega
end

section
open PySem PySem.W PyProof.Rows PySem.Calls PyProof.V
set_option maxRecDepth 100000
theorem strsAre_vals : ∀ l : List (Str × Tok), StrsAre (strValues l) (l.map (·.1))
  | [] => .nil
  | p :: r => .cons p.1 p.2 (strsAre_vals r)
theorem split_le' (x y : Str) : (Txt.split x y).length ≤ x.length + 2 := split_le x y
section
variable {prog : Program} {w : World} {A : Around} {E : Value → Shared → Prop} {s : Shared} {Q : Value → Shared → Prop}
theorem splitCall {n : Nat} {t u : Tok} (hn : n < 4294967296)
    (h : ∀ D vs h' k, StrsAre vs (tWords n) → h'.IsList D vs.toArray → s.heap.StaysIn h' → Q (.ref D) { s with heap := h', toks := k }) :
    wpAny (model prog w) A (call (.builtin "str.split") [.str (prettyText n) t, .str (Str.ofString ", ") u]) Q E s := by
  have hsz := pretty_len n
  have hy : ((Str.ofString ", ").length == 0) = false := by decide +kernel
  refine SCH.split1 (P := fun h' => s.heap.StaysIn h') (fun h ob k b o e => Heap.get?_push_of_some _ (k b o e)) (fun _ _ e => e) hy (fun D l h' k e st hl => ?_) (by omega) ?_
  · have hs := strsAre_vals l
    rw [e] at hs
    rw [show Txt.split (prettyText n) (Str.ofString ", ") = tWords n from split_pretty hn] at hs
    exact h D _ h' k hs hl st
  · have e1 := StrLaws.occ_length_le (prettyText n) (Str.ofString ", ") 0 (prettyText n).length ((prettyText n).length + 1)
    rw [length_partsBetween]; omega
theorem eq_strs_nil {a b : Addr} {vs : List Value} {xs : List Str} (hl : s.heap.IsList a vs.toArray) (hi : StrsAre vs xs) (hl' : s.heap.IsList b #[]) (ok1 : ∀ x ∈ xs, PyData.strOk x = true) (hu : A.units + 64 < cLine)
    (h : Q (.bool (decide (xs = []))) s) : wpAny (model prog w) A (compareOp .Eq (.ref a) (.ref b)) Q E s :=
  eq_strs (ys := []) hl hi (us := []) hl' .nil ok1 (fun _ h => nomatch h) hu h
end
noncomputable def sOf (f : Str → Bool) : Value → Bool
  | .str x _ => f x
  | _ => false
theorem strs_filter {f : Str → Bool} : ∀ {vs : List Value} {ns : List Str}, StrsAre vs ns → StrsAre (vs.filter (sOf f)) (ns.filter f)
  | _, _, .nil => .nil
  | _, _, .cons n t r => by
    have ih := strs_filter (f := f) r
    cases h : f n with
    | true =>
      rw [List.filter_cons_of_pos (by exact h), List.filter_cons_of_pos h]
      exact .cons n t ih
    | false =>
      rw [List.filter_cons_of_neg (by rw [show sOf f (.str n t) = f n from rfl, h]; decide), List.filter_cons_of_neg (by rw [h]; decide)]
      exact ih
theorem strs_at {vs : List Value} {ns : List Str} (h : StrsAre vs ns) : ∀ (i : Nat) v, vs[i]? = some v → ∃ t, v = .str (ns.getD i Str.empty) t ∧ ns.getD i Str.empty ∈ ns := by
  induction h with
  | nil => intro i v e; simp at e
  | cons n t r ih =>
    intro i v e
    cases i with
    | zero => simp at e; subst e; exact ⟨t, rfl, by simp⟩
    | succ i =>
      obtain ⟨t', e', m⟩ := ih i v (by simpa using e)
      exact ⟨t', by simpa using e', by simpa using Or.inr m⟩
noncomputable def amongP (n2 : Nat) (w : Str) : Bool := decide (w ≠ Str.ofString "0x0") && !decide (w ∈ tWords n2)
theorem among_t {n2 : Nat} {x : Str} {t : Tok} (h1 : (x != Str.ofString "0x0") = true) (h2 : ((tWords n2).any fun y => y == x) = false) : true = sOf (amongP n2) (.str x t) := by
  rw [List.any_eq_false] at h2
  have h3 : x ∉ tWords n2 := fun h => by have := h2 x h; rw [beq_self_eq_true] at this; exact this rfl
  have h4 : x ≠ Str.ofString "0x0" := by intro e; rw [e, bne_self_eq_false] at h1; cases h1
  show true = (decide (x ≠ _) && !decide (x ∈ _))
  rw [decide_eq_true h4, decide_eq_false h3]; rfl
theorem among_f1 {n2 : Nat} {x : Str} {t : Tok} (h1 : (x != Str.ofString "0x0") = false) : false = sOf (amongP n2) (.str x t) := by
  have h4 : x = Str.ofString "0x0" := by simpa using h1
  show false = (decide (x ≠ _) && !decide (x ∈ _))
  rw [decide_eq_false (fun h => h h4)]; rfl
theorem among_f2 {n2 : Nat} {x : Str} {t : Tok} (h2 : ((tWords n2).any fun y => y == x) = true) : false = sOf (amongP n2) (.str x t) := by
  obtain ⟨y, hy, e⟩ := List.any_eq_true.mp h2
  have e := eq_of_beq e
  subst e
  show false = (decide (y ≠ _) && !decide (y ∈ _))
  rw [decide_eq_true hy]; simp
theorem among_is (n1 n2 : Nat) : (tWords n1).filter (amongP n2) = amongKept n1 n2 := rfl
theorem any_mem (ys : List Str) (x : Str) : ys.any (· == x) = decide (x ∈ ys) := by
  by_cases h : x ∈ ys
  · rw [decide_eq_true h, List.any_eq_true]
    exact ⟨x, h, beq_self_eq_true x⟩
  · rw [decide_eq_false h, List.any_eq_false]
    intro y hy e
    exact h (eq_of_beq e ▸ hy)
theorem kept_ok {n1 n2 : Nat} : ∀ x ∈ amongKept n1 n2, PyData.strOk x = true := fun x hx => tWords_ok x (List.mem_filter.mp hx).1
theorem perms_all : (perms5.all fun q => [0, 1, 2, 3, 4].all fun x => q.contains (x : Int)) = true := by decide +kernel
theorem perm_in {p q : List Int} (hp : p ∈ perms5) (hq : q ∈ perms5) : ∀ x ∈ p, x ∈ q := by
  intro x hx
  have h1 := (perm_five hp).2 x hx
  have h2 := List.all_eq_true.mp (List.all_eq_true.mp perms_all q hq) x (by
    have : x = 0 ∨ x = 1 ∨ x = 2 ∨ x = 3 ∨ x = 4 := by omega
    rcases this with rfl | rfl | rfl | rfl | rfl <;> simp)
  exact List.contains_iff_mem.mp h2
end

section
open PySem PySem.W PyProof.Rows PySem.Calls PyProof.V
set_option maxRecDepth 100000
/-- a row's flags, a number -/
noncomputable def fl (p : List Int) : Nat := (wFlags p 5).toNat
noncomputable def hiAt (p : List Int) (r : Int) : Int := p.getD (r + 1).toNat 0
noncomputable def loAt (p : List Int) (r : Int) : Int := p.getD r.toNat 0
noncomputable def jOf (lo hi : Int) : Nat := ((hi * (hi - 1)).fdiv 2 + lo).toNat
noncomputable def asc (p : List Int) (r : Int) : Bool := decide (loAt p r < hiAt p r)
noncomputable def jb (p : List Int) (r : Int) : Nat := jOf (loAt p r) (hiAt p r)
noncomputable def pc (f : Nat) : Nat := ((List.range 10).filter fun i => f.testBit i).length
theorem pc_le (f : Nat) : pc f ≤ 10 := Nat.le_trans (List.length_filter_le _ _) (by simp)
theorem asc_all : (perms5.all fun p => places.all fun r => !asc p r || (!(fl p).testBit (jb p r) && fl (exch p r (r + 1)) == fl p ||| 2 ^ jb p r && pc (fl (exch p r (r + 1))) == pc (fl p) + 1)) = true := by decide +kernel
theorem bit_all : (perms5.all fun q => (List.range 5).all fun hi => (List.range hi).all fun lo => decide ((q.idxOf ((hi : Nat) : Int) : Int) < (q.idxOf ((lo : Nat) : Int) : Int)) == (fl q).testBit (jOf ((lo : Nat) : Int) ((hi : Nat) : Int))) = true := by decide +kernel
noncomputable def js (p : List Int) : List Nat := (places.filter (asc p)).map (jb p)
noncomputable def tabF : List (Nat × List Nat) := perms5.map fun p => (fl p, js p)
noncomputable def tabP : List (Nat × List Int) := perms5.map fun p => (fl p, p)
theorem place_is {r : Int} (h : r ∈ places) : 0 ≤ r ∧ r < 4 := by
  simp only [places, rangeZ, List.mem_map, List.mem_range] at h
  obtain ⟨a, ha, rfl⟩ := h
  omega
theorem asc_is {p : List Int} (h : p ∈ perms5) {r : Int} (hr : r ∈ places) (ha : asc p r = true) : (fl p).testBit (jb p r) = false ∧ fl (exch p r (r + 1)) = fl p ||| 2 ^ jb p r ∧ pc (fl (exch p r (r + 1))) = pc (fl p) + 1 := by
  have := List.all_eq_true.mp (List.all_eq_true.mp asc_all p h) r hr
  rw [ha] at this
  simp only [Bool.not_true, Bool.false_or, Bool.and_eq_true, Bool.not_eq_true', beq_iff_eq] at this
  exact ⟨this.1.1, this.1.2, this.2⟩
theorem bit_is {p q : List Int} (hp : p ∈ perms5) (hq : q ∈ perms5) {r : Int} (hr : r ∈ places) (ha : asc p r = true) : risesAt p q r = (fl q).testBit (jb p r) := by
  have h0 := place_is hr
  have hl : 0 ≤ loAt p r ∧ loAt p r < 5 := (perm_five hp).at (by omega)
  have hh : 0 ≤ hiAt p r ∧ hiAt p r < 5 := (perm_five hp).at (by omega)
  have hlt : loAt p r < hiAt p r := of_decide_eq_true ha
  have := List.all_eq_true.mp (List.all_eq_true.mp (List.all_eq_true.mp bit_all q hq) (hiAt p r).toNat (List.mem_range.mpr (by omega))) (loAt p r).toNat (List.mem_range.mpr (by omega))
  rw [Int.toNat_of_nonneg hl.1, Int.toNat_of_nonneg hh.1] at this
  have e : risesAt p q r = (asc p r && decide ((q.idxOf (hiAt p r) : Int) < (q.idxOf (loAt p r) : Int))) := rfl
  rw [e, ha, Bool.true_and]
  exact eq_of_beq this
theorem rises_asc {p q : List Int} {r : Int} (h : risesAt p q r = true) : asc p r = true := by
  have e : risesAt p q r = (asc p r && decide ((q.idxOf (hiAt p r) : Int) < (q.idxOf (loAt p r) : Int))) := rfl
  rw [e, Bool.and_eq_true] at h
  exact h.1
noncomputable def litF : List (Nat × List Nat) := [(0, [0, 2, 5, 9]), (1, [1, 5, 9]), (3, [2, 3, 9]), (11, [2, 5, 6]), (75, [2, 5, 9]), (4, [1, 4, 9]), (6, [0, 4, 9]), (7, [3, 9]), (15, [4, 6]), (79, [4, 9]), (20, [1, 5, 7]), (22, [3, 7]), (30, [5, 0, 7]), (31, [5, 6]), (95, [5, 7]), (148, [1, 5, 9]), (150, [3, 9]), (158, [5, 6]), (222, [5, 9, 0]), (223, [5, 9]), (32, [0, 4, 8]), (33, [3, 8]), (41, [4, 1, 8]), (43, [4, 6]), (107, [4, 8]), (48, [3, 2, 8]), (56, [0, 2, 8]), (57, [1, 8]), (59, [2, 6]), (123, [2, 8]), (52, [3, 7]), (60, [1, 7]), (62, [0, 7]), (63, [6]), (127, [7]), (180, [3, 8]), (188, [1, 8]), (190, [6]), (254, [8, 0]), (255, [8]), (288, [0, 4, 9]), (289, [3, 9]), (297, [4, 6]), (361, [4, 9, 1]), (363, [4, 9]), (304, [3, 7]), (312, [0, 7]), (313, [6]), (377, [7, 1]), (379, [7]), (432, [3, 9, 2]), (440, [6, 2]), (504, [9, 0, 2]), (505, [9, 1]), (507, [9, 2]), (436, [3, 9]), (444, [6]), (508, [9, 1]), (510, [9, 0]), (511, [9]), (512, [0, 2, 8]), (513, [1, 8]), (515, [2, 6]), (579, [2, 8, 3]), (587, [2, 8]), (516, [1, 7]), (518, [0, 7]), (519, [6]), (583, [7, 3]), (591, [7]), (644, [1, 8, 4]), (646, [6, 4]), (710, [8, 0, 4]), (711, [8, 3]), (719, [8, 4]), (660, [1, 8]), (662, [6]), (726, [8, 3]), (734, [8, 0]), (735, [8]), (768, [0, 7, 5]), (769, [6, 5]), (833, [7, 1, 5]), (835, [7, 3]), (843, [7, 5]), (896, [6, 2, 5]), (960, [0, 2, 5]), (961, [1, 5]), (963, [2, 3]), (971, [2, 5]), (900, [6, 4]), (964, [1, 4]), (966, [0, 4]), (967, [3]), (975, [4]), (916, [6, 5]), (980, [1, 5]), (982, [3]), (990, [5, 0]), (991, [5]), (800, [0, 7]), (801, [6]), (865, [7, 3]), (873, [7, 1]), (875, [7]), (928, [6, 4]), (992, [0, 4]), (993, [3]), (1001, [4, 1]), (1003, [4]), (944, [6, 2]), (1008, [3, 2]), (1016, [0, 2]), (1017, [1]), (1019, [2]), (948, [6]), (1012, [3]), (1020, [1]), (1022, [0]), (1023, [])]
noncomputable def litP : List (Nat × List Int) := [(0, [0, 1, 2, 3, 4]), (1, [1, 0, 2, 3, 4]), (3, [1, 2, 0, 3, 4]), (11, [1, 2, 3, 0, 4]), (75, [1, 2, 3, 4, 0]), (4, [0, 2, 1, 3, 4]), (6, [2, 0, 1, 3, 4]), (7, [2, 1, 0, 3, 4]), (15, [2, 1, 3, 0, 4]), (79, [2, 1, 3, 4, 0]), (20, [0, 2, 3, 1, 4]), (22, [2, 0, 3, 1, 4]), (30, [2, 3, 0, 1, 4]), (31, [2, 3, 1, 0, 4]), (95, [2, 3, 1, 4, 0]), (148, [0, 2, 3, 4, 1]), (150, [2, 0, 3, 4, 1]), (158, [2, 3, 0, 4, 1]), (222, [2, 3, 4, 0, 1]), (223, [2, 3, 4, 1, 0]), (32, [0, 1, 3, 2, 4]), (33, [1, 0, 3, 2, 4]), (41, [1, 3, 0, 2, 4]), (43, [1, 3, 2, 0, 4]), (107, [1, 3, 2, 4, 0]), (48, [0, 3, 1, 2, 4]), (56, [3, 0, 1, 2, 4]), (57, [3, 1, 0, 2, 4]), (59, [3, 1, 2, 0, 4]), (123, [3, 1, 2, 4, 0]), (52, [0, 3, 2, 1, 4]), (60, [3, 0, 2, 1, 4]), (62, [3, 2, 0, 1, 4]), (63, [3, 2, 1, 0, 4]), (127, [3, 2, 1, 4, 0]), (180, [0, 3, 2, 4, 1]), (188, [3, 0, 2, 4, 1]), (190, [3, 2, 0, 4, 1]), (254, [3, 2, 4, 0, 1]), (255, [3, 2, 4, 1, 0]), (288, [0, 1, 3, 4, 2]), (289, [1, 0, 3, 4, 2]), (297, [1, 3, 0, 4, 2]), (361, [1, 3, 4, 0, 2]), (363, [1, 3, 4, 2, 0]), (304, [0, 3, 1, 4, 2]), (312, [3, 0, 1, 4, 2]), (313, [3, 1, 0, 4, 2]), (377, [3, 1, 4, 0, 2]), (379, [3, 1, 4, 2, 0]), (432, [0, 3, 4, 1, 2]), (440, [3, 0, 4, 1, 2]), (504, [3, 4, 0, 1, 2]), (505, [3, 4, 1, 0, 2]), (507, [3, 4, 1, 2, 0]), (436, [0, 3, 4, 2, 1]), (444, [3, 0, 4, 2, 1]), (508, [3, 4, 0, 2, 1]), (510, [3, 4, 2, 0, 1]), (511, [3, 4, 2, 1, 0]), (512, [0, 1, 2, 4, 3]), (513, [1, 0, 2, 4, 3]), (515, [1, 2, 0, 4, 3]), (579, [1, 2, 4, 0, 3]), (587, [1, 2, 4, 3, 0]), (516, [0, 2, 1, 4, 3]), (518, [2, 0, 1, 4, 3]), (519, [2, 1, 0, 4, 3]), (583, [2, 1, 4, 0, 3]), (591, [2, 1, 4, 3, 0]), (644, [0, 2, 4, 1, 3]), (646, [2, 0, 4, 1, 3]), (710, [2, 4, 0, 1, 3]), (711, [2, 4, 1, 0, 3]), (719, [2, 4, 1, 3, 0]), (660, [0, 2, 4, 3, 1]), (662, [2, 0, 4, 3, 1]), (726, [2, 4, 0, 3, 1]), (734, [2, 4, 3, 0, 1]), (735, [2, 4, 3, 1, 0]), (768, [0, 1, 4, 2, 3]), (769, [1, 0, 4, 2, 3]), (833, [1, 4, 0, 2, 3]), (835, [1, 4, 2, 0, 3]), (843, [1, 4, 2, 3, 0]), (896, [0, 4, 1, 2, 3]), (960, [4, 0, 1, 2, 3]), (961, [4, 1, 0, 2, 3]), (963, [4, 1, 2, 0, 3]), (971, [4, 1, 2, 3, 0]), (900, [0, 4, 2, 1, 3]), (964, [4, 0, 2, 1, 3]), (966, [4, 2, 0, 1, 3]), (967, [4, 2, 1, 0, 3]), (975, [4, 2, 1, 3, 0]), (916, [0, 4, 2, 3, 1]), (980, [4, 0, 2, 3, 1]), (982, [4, 2, 0, 3, 1]), (990, [4, 2, 3, 0, 1]), (991, [4, 2, 3, 1, 0]), (800, [0, 1, 4, 3, 2]), (801, [1, 0, 4, 3, 2]), (865, [1, 4, 0, 3, 2]), (873, [1, 4, 3, 0, 2]), (875, [1, 4, 3, 2, 0]), (928, [0, 4, 1, 3, 2]), (992, [4, 0, 1, 3, 2]), (993, [4, 1, 0, 3, 2]), (1001, [4, 1, 3, 0, 2]), (1003, [4, 1, 3, 2, 0]), (944, [0, 4, 3, 1, 2]), (1008, [4, 0, 3, 1, 2]), (1016, [4, 3, 0, 1, 2]), (1017, [4, 3, 1, 0, 2]), (1019, [4, 3, 1, 2, 0]), (948, [0, 4, 3, 2, 1]), (1012, [4, 0, 3, 2, 1]), (1020, [4, 3, 0, 2, 1]), (1022, [4, 3, 2, 0, 1]), (1023, [4, 3, 2, 1, 0])]
theorem litF_is : tabF = litF := by decide +kernel
theorem litP_is : tabP = litP := by decide +kernel
theorem still_all : (litF.all fun x => litF.all fun y => x.1 &&& y.1 != x.1 || x.1 == y.1 || x.2.any fun j => y.1.testBit j) = true := by decide +kernel
theorem look_all : (litP.all fun x => litP.lookup x.1 == some x.2) = true := by decide +kernel
theorem lookup_of {L : List (Nat × List Int)} (h : (L.all fun x => L.lookup x.1 == some x.2) = true) {a : Nat} {b : List Int} (hm : (a, b) ∈ L) : L.lookup a = some b :=
  eq_of_beq (List.all_eq_true.mp h (a, b) hm)
theorem still_of {L : List (Nat × List Nat)} (h : (L.all fun x => L.all fun y => x.1 &&& y.1 != x.1 || x.1 == y.1 || x.2.any fun j => y.1.testBit j) = true) {a b : Nat} {k l : List Nat} (hm : (a, k) ∈ L) (hm' : (b, l) ∈ L) (e : a &&& b = a) : a = b ∨ ∃ j ∈ k, b.testBit j = true := by
  have := List.all_eq_true.mp (List.all_eq_true.mp h (a, k) hm) (b, l) hm'
  dsimp only at this
  rw [e] at this
  simp only [bne_self_eq_false, Bool.false_or, Bool.or_eq_true, beq_iff_eq, List.any_eq_true] at this
  exact this
theorem fl_inj {p q : List Int} (hp : p ∈ perms5) (hq : q ∈ perms5) (h : fl p = fl q) : p = q := by
  have key : ∀ p ∈ perms5, litP.lookup (fl p) = some p := fun p hp => by
    have hm : (fl p, p) ∈ litP := by rw [← litP_is]; exact List.mem_map_of_mem (f := fun p => (fl p, p)) hp
    exact lookup_of look_all hm
  have h1 := key p hp
  rw [h, key q hq] at h1
  exact (Option.some.inj h1).symm
theorem still {p q : List Int} (hp : p ∈ perms5) (hq : q ∈ perms5) (h0 : rises p q = []) (h : fl p &&& fl q = fl p) : p = q := by
  have hm1 : (fl p, js p) ∈ litF := by rw [← litF_is]; exact List.mem_map_of_mem (f := fun p => (fl p, js p)) hp
  have hm2 : (fl q, js q) ∈ litF := by rw [← litF_is]; exact List.mem_map_of_mem (f := fun p => (fl p, js p)) hq
  have := still_of still_all hm1 hm2 h
  rcases this with h9 | ⟨j, hj, hb⟩
  · exact fl_inj hp hq h9
  · obtain ⟨r, hr, rfl⟩ := List.mem_map.mp hj
    obtain ⟨hr, ha⟩ := List.mem_filter.mp hr
    rw [← bit_is hp hq hr ha] at hb
    have : r ∈ rises p q := List.mem_filter.mpr ⟨hr, hb⟩
    rw [h0] at this
    cases this
theorem and_or_bit {f g j : Nat} (hf : f.testBit j = false) (hg : g.testBit j = true) : (f ||| 2 ^ j) &&& g = f ||| 2 ^ j ↔ f &&& g = f := by
  constructor
  · intro h
    refine Nat.eq_of_testBit_eq fun i => ?_
    have := congrArg (·.testBit i) h
    simp only [Nat.testBit_and, Nat.testBit_or, Nat.testBit_two_pow] at this ⊢
    by_cases e : j = i
    · subst e; rw [hf]; rfl
    · simp only [e, decide_false, Bool.or_false] at this
      exact this
  · intro h
    refine Nat.eq_of_testBit_eq fun i => ?_
    have := congrArg (·.testBit i) h
    simp only [Nat.testBit_and, Nat.testBit_or, Nat.testBit_two_pow] at this ⊢
    by_cases e : j = i
    · subst e; rw [hg]; simp
    · simp only [e, decide_false, Bool.or_false]
      exact this
theorem bec_run {q : List Int} (hq : q ∈ perms5) : ∀ (k : Nat) (p : List Int), p ∈ perms5 → 10 ≤ pc (fl p) + k → (becRun q k p = q ↔ fl p &&& fl q = fl p) := by
  have base : ∀ p, p ∈ perms5 → rises p q = [] → (p = q ↔ fl p &&& fl q = fl p) := fun p hp h0 =>
    ⟨fun e => by rw [e, Nat.and_self], still hp hq h0⟩
  have step : ∀ p, p ∈ perms5 → ∀ r ∈ rises p q, exch p r (r + 1) ∈ perms5 ∧ pc (fl (exch p r (r + 1))) = pc (fl p) + 1 ∧ (fl (exch p r (r + 1)) &&& fl q = fl (exch p r (r + 1)) ↔ fl p &&& fl q = fl p) := fun p hp r hr => by
    obtain ⟨hr, hb⟩ := List.mem_filter.mp hr
    have h0 := place_is hr
    have ha := rises_asc hb
    have hb' := bit_is hp hq hr ha
    rw [hb'] at hb
    obtain ⟨a1, a2, a3⟩ := asc_is hp hr ha
    exact ⟨exch_perm hp ⟨h0.1, by omega⟩ ⟨by omega, by omega⟩, a3, by rw [a2]; exact and_or_bit a1 hb⟩
  intro k
  induction k with
  | zero =>
    intro p hp hk
    refine base p hp ?_
    cases e : rises p q with
    | nil => rfl
    | cons r l =>
      have := (step p hp r (by rw [e]; exact .head _)).2.1
      have := pc_le (fl (exch p r (r + 1)))
      omega
  | succ k ih =>
    intro p hp hk
    have e : becRun q (k + 1) p = if rises p q = [] then p else becRun q k (exch p ((rises p q).getLastD 0) ((rises p q).getLastD 0 + 1)) := rfl
    rw [e]
    by_cases h0 : rises p q = []
    · rw [if_pos h0]; exact base p hp h0
    · rw [if_neg h0]
      obtain ⟨s1, s2, s3⟩ := step p hp _ (List.mem_of_getElem? (getD_last h0))
      rw [ih _ s1 (by omega)]
      exact s3
theorem among_becomes {p1 p2 : List Int} {B : Nat} (h1 : p1 ∈ perms5) (h2 : p2 ∈ perms5) (hB : B < 23) :
    decide (amongKept ((wFlags p1 5).toNat * 2 ^ B) ((wFlags p2 5).toNat * 2 ^ B) = []) = decide (becRun p2 10 p1 = p2) := by
  refine decide_eq_decide.mpr ?_
  have := flags_ok h1
  rw [among_shift (by omega) hB]
  exact (bec_run h2 10 p1 h1 (by omega)).symm
end

section
open PySem PySem.W PyProof.Rows PySem.Calls PyProof.V
set_option maxRecDepth 100000
noncomputable def dueP (r1 r2 : List Int) (b : Int) : Bool := decide ((lows b r1).length < (lows b r2).length)
noncomputable def dueK (r1 r2 : List Int) : Bool := decide ((rangeZ 1 4).filter (dueP r1 r2) = [])
noncomputable def dueAt (p1 p2 : List Int) (k : Nat) : Bool := dueK (wKept p1 (k + 1)) (wKept p2 (k + 1))
theorem rows_at (p : List Int) : ∀ k : Nat, k < 4 → (wRows p 5)[k]? = some (wKept p (k + 1)) := by
  intro k hk
  have e : wRows p 5 = [wKept p 1, wKept p 2, wKept p 3, wKept p 4] := by simp [wRows]
  rw [e]
  have : k = 0 ∨ k = 1 ∨ k = 2 ∨ k = 3 := by omega
  rcases this with rfl | rfl | rfl | rfl <;> rfl
theorem rowsLen {α : Type} {R : α → List Int → Prop} {vs : List α} {p : List Int} (h : All2 R vs (wRows p 5)) : vs.length ≤ 1000 := by
  have := h.length
  have := wRows_len p 5
  omega
section
variable {prog : Program} {w : World} {A : Around} {E : Value → Shared → Prop} {s : Shared} {h₀ : Heap} {L : Addr} {news : List (Addr × Obj)}
theorem item_valN {value slice : PySem.Expr} {l : Addr} {vs : List Value} {n : Nat} {v : Value} {k : Int} {u : Tok} {Q : Value → Shared → Prop}
    (N : News h₀ L s.heap news) (hm : (l, listOf vs.toArray n) ∈ news) (hv : vs[k.toNat]? = some v) (h0 : 0 ≤ k) (hz : vs.length ≤ 1000) (h : Q v s)
    (hs : subscripted slice false (.ref l) (.int k u) = operate [.ref l, .int k u] (getItem (.ref l) (.int k u))) (hg : ∀ r, letTemporaryGo value (.ref l) r = pure ()) :
    wpAny (model prog w) A (subscriptTail value slice (.ref l) (.int k u)) Q E s := by
  have hlt := (List.getElem?_eq_some_iff.mp hv).1
  exact kim_list (lo := listOf vs.toArray n) N hm rfl rfl h0 (by omega) hv h hs hg
end
end

section
open PySem PySem.W PyProof.Rows PySem.Calls PyProof.V PySem.Spec PySem.SeqAt
set_option maxRecDepth 100000
theorem mul_is : ∀ n : Fin 8, (Txt.mul (Str.ofString " ") ((n : Nat) : Int)).cps.toList = List.replicate n 32 := by decide +kernel
theorem mul_is' {z : Int} (h : 0 ≤ z ∧ z ≤ 7) : (Txt.mul (Str.ofString " ") z).cps.toList = List.replicate z.toNat 32 := by
  have := mul_is ⟨z.toNat, by omega⟩
  rwa [show ((z.toNat : Nat) : Int) = z by omega] at this
theorem join0_is : ∀ ws : List Str, (Str.join (Str.ofString "") ws).cps.toList = (ws.map fun w => w.cps.toList).flatten
  | [] => rfl
  | [w] => by simp [Str.join]
  | w :: v :: r => by
    show (w ++ Str.ofString "" ++ Str.join (Str.ofString "") (v :: r)).cps.toList = _
    rw [Str.cps_append, Str.cps_append, Array.toList_append, Array.toList_append, join0_is (v :: r)]
    have e : (Str.ofString "").cps.toList = [] := by decide +kernel
    rw [e]; simp
noncomputable def cpsOf (ls : List Int) (b : Nat) (K : List Int) : List Nat := (K.map fun one => List.replicate (ls.getD one.toNat 0).toNat 32 ++ [9]).flatten ++ List.replicate b 32 ++ [120, 9]
theorem lead_cps {ls K : List Int} {b : Int} (h : ∀ z ∈ K, 0 ≤ ls.getD z.toNat 0 ∧ ls.getD z.toNat 0 ≤ 7) (hb : 0 ≤ b ∧ b ≤ 7) : (leadStr ls b K).cps.toList = cpsOf ls b.toNat K := by
  unfold leadStr cpsOf
  have e1 : (Txt.join (Str.ofString "") (K.map (piece ls))).cps.toList = (K.map fun one => List.replicate (ls.getD one.toNat 0).toNat 32 ++ [9]).flatten := by
    show (Builtin.Str.glued _ _).cps.toList = _
    rw [StrLaws.glued_eq_join, join0_is, List.map_map]
    congr 1
    refine List.map_congr_left fun z hz => ?_
    show (piece ls z).cps.toList = _
    unfold piece
    rw [Str.cps_append, Array.toList_append, mul_is' (h z hz)]
    rfl
  rw [Str.cps_append, Str.cps_append, Array.toList_append, Array.toList_append, e1, mul_is' hb]
  rfl
noncomputable def subsets : List Int → List (List Int)
  | [] => [[]]
  | x :: r => (subsets r).map (x :: ·) ++ subsets r
noncomputable def subsK (k : Nat) : List (List Int) := (subsets [0, 1, 2, 3, 4]).filter fun K => K.length == k
noncomputable def subsAll : List (List Int) := subsK 1 ++ subsK 2 ++ subsK 3 ++ subsK 4
theorem kept_all : (perms5.all fun p => (List.range 4).all fun k => (subsK (k + 1)).contains (wKept p (k + 1))) = true := by decide +kernel
theorem kept_in {p : List Int} (h : p ∈ perms5) {k : Nat} (hk : k < 4) : wKept p (k + 1) ∈ subsK (k + 1) :=
  List.contains_iff_mem.mp (List.all_eq_true.mp (List.all_eq_true.mp kept_all p h) k (List.mem_range.mpr hk))
theorem subs_all {k : Nat} (hk : k < 4) {K : List Int} (h : K ∈ subsK (k + 1)) : K ∈ subsAll := by
  unfold subsAll
  simp only [List.mem_append]
  have : k = 0 ∨ k = 1 ∨ k = 2 ∨ k = 3 := by omega
  rcases this with rfl | rfl | rfl | rfl
  · exact .inl (.inl (.inl h))
  · exact .inl (.inl (.inr h))
  · exact .inl (.inr h)
  · exact .inr h
noncomputable def ls5 (a : Nat) : List Int := [(a : Int), 4, 5, 6, 7]
noncomputable def uOf (a : Nat) (K : List Int) : WS := wsRun (cpsOf (ls5 a) 0 K) ⟨0, 0, 0, []⟩
noncomputable def sg (y : WS) (ts : Int) : Int := ilRun ts y.count ((y.count.length : Int) - ts).toNat
theorem blanks_all : ((List.range 4).all fun a => subsAll.all fun K => (List.range 7).all fun b =>
    let y := wsRun (cpsOf (ls5 a) b K) ⟨0, 0, 0, []⟩
    y.n == (uOf a K).n + b && y.b == b && y.nt == K.length && y.count == (uOf a K).count) = true := by decide +kernel
theorem u_all : ((List.range 4).all fun a => subsAll.all fun K => decide ((uOf a K).count.length ≤ 8) && (decide (1 < (uOf a K).count.length) || (uOf a K).n == K.length)) = true := by decide +kernel
noncomputable def lessOk (a : Nat) (K1 K2 : List Int) : Bool :=
  if dueK K1 K2 = true then decide ((uOf a K1).n < (uOf a K2).n + 1) && (List.range 7).all fun j => decide ((2 + (j : Int)) * sg (uOf a K1) (2 + (j : Int)) < 1 + (2 + (j : Int)) * sg (uOf a K2) (2 + (j : Int)))
  else decide ((uOf a K2).n + 4 ≤ (uOf a K1).n) || (!(decide ((uOf a K1).count.length ≤ 1) && decide ((uOf a K2).count.length ≤ 1)) &&
    (List.range 7).any fun j => (decide (2 + j ≤ (uOf a K1).count.length) || decide (2 + j ≤ (uOf a K2).count.length)) && decide ((2 + (j : Int)) * sg (uOf a K2) (2 + (j : Int)) + 4 ≤ (2 + (j : Int)) * sg (uOf a K1) (2 + (j : Int))))
theorem less_0 : ((List.range 4).all fun a => (subsK 1).all fun K1 => (subsK 1).all fun K2 => lessOk a K1 K2) = true := by decide +kernel
theorem less_1 : ((List.range 4).all fun a => (subsK 2).all fun K1 => (subsK 2).all fun K2 => lessOk a K1 K2) = true := by decide +kernel
theorem less_2 : ((List.range 4).all fun a => (subsK 3).all fun K1 => (subsK 3).all fun K2 => lessOk a K1 K2) = true := by decide +kernel
theorem less_3 : ((List.range 4).all fun a => (subsK 4).all fun K1 => (subsK 4).all fun K2 => lessOk a K1 K2) = true := by decide +kernel
theorem less_ok {a k : Nat} (ha : a < 4) (hk : k < 4) {K1 K2 : List Int} (h1 : K1 ∈ subsK (k + 1)) (h2 : K2 ∈ subsK (k + 1)) : lessOk a K1 K2 = true := by
  have : k = 0 ∨ k = 1 ∨ k = 2 ∨ k = 3 := by omega
  rcases this with rfl | rfl | rfl | rfl
  · exact List.all_eq_true.mp (List.all_eq_true.mp (List.all_eq_true.mp less_0 a (List.mem_range.mpr ha)) K1 h1) K2 h2
  · exact List.all_eq_true.mp (List.all_eq_true.mp (List.all_eq_true.mp less_1 a (List.mem_range.mpr ha)) K1 h1) K2 h2
  · exact List.all_eq_true.mp (List.all_eq_true.mp (List.all_eq_true.mp less_2 a (List.mem_range.mpr ha)) K1 h1) K2 h2
  · exact List.all_eq_true.mp (List.all_eq_true.mp (List.all_eq_true.mp less_3 a (List.mem_range.mpr ha)) K1 h1) K2 h2
structure LeadIs (y u : WS) (b : Int) (k : Nat) : Prop where
  n : y.n = u.n + b
  b : y.b = b
  nt : y.nt = k
  cnt : y.count = u.count
  len : u.count.length ≤ 8
  one : u.count.length ≤ 1 → u.n = k
theorem subs_len {k : Nat} {K : List Int} (h : K ∈ subsK k) : K.length = k := by
  have := (List.mem_filter.mp h).2
  exact eq_of_beq this
theorem lead_is {p : List Int} (h : p ∈ perms5) {a b : Int} (ha : 0 ≤ a ∧ a < 4) (hb : 0 ≤ b ∧ b < 7) {k : Nat} (hk : k < 4) :
    LeadIs (wsOf (leadStr [a, 4, 5, 6, 7] b (wKept p (k + 1)))) (uOf a.toNat (wKept p (k + 1))) b (k + 1) := by
  have hK := kept_in h hk
  have hK' := subs_all hk hK
  have hl : ∀ z ∈ wKept p (k + 1), 0 ≤ ([a, 4, 5, 6, 7] : List Int).getD z.toNat 0 ∧ ([a, 4, 5, 6, 7] : List Int).getD z.toNat 0 ≤ 7 := by
    intro z hz
    have := wKept_mem (perm_five h) (k + 1) (by omega) z hz
    have : z = 0 ∨ z = 1 ∨ z = 2 ∨ z = 3 ∨ z = 4 := by omega
    rcases this with rfl | rfl | rfl | rfl | rfl <;> simp <;> omega
  have ea : ([a, 4, 5, 6, 7] : List Int) = ls5 a.toNat := by unfold ls5; rw [Int.toNat_of_nonneg ha.1]
  have e : wsOf (leadStr [a, 4, 5, 6, 7] b (wKept p (k + 1))) = wsRun (cpsOf (ls5 a.toNat) b.toNat (wKept p (k + 1))) ⟨0, 0, 0, []⟩ := by
    unfold wsOf
    rw [lead_cps hl ⟨hb.1, by omega⟩, ea]
  have c1 := List.all_eq_true.mp (List.all_eq_true.mp (List.all_eq_true.mp blanks_all a.toNat (List.mem_range.mpr (by omega))) _ hK') b.toNat (List.mem_range.mpr (by omega))
  have c2 := List.all_eq_true.mp (List.all_eq_true.mp u_all a.toNat (List.mem_range.mpr (by omega))) _ hK'
  simp only [Bool.and_eq_true, beq_iff_eq, decide_eq_true_eq, Bool.or_eq_true] at c1 c2
  rw [← e] at c1
  obtain ⟨⟨⟨d1, d2⟩, d3⟩, d4⟩ := c1
  have hlen := subs_len hK
  rw [Int.toNat_of_nonneg hb.1] at d1 d2
  refine ⟨d1, d2, by rw [d3, hlen], d4, c2.1, fun hle => ?_⟩
  rcases c2.2 with h9 | h9
  · omega
  · rw [h9, hlen]
theorem LeadIs.indent {y u : WS} {b : Int} {k : Nat} (L : LeadIs y u b k) (ts : Int) : wsIndent y ts = b + ts * (sg u ts + k) := by
  unfold wsIndent sg
  rw [L.b, L.nt, L.cnt]
theorem sg_zero {u : WS} {ts : Int} (h : (u.count.length : Int) ≤ ts) : sg u ts = 0 := by
  unfold sg
  rw [show ((u.count.length : Int) - ts).toNat = 0 by omega]
  rfl
theorem lead_lessB {y1 y2 u1 u2 : WS} {b d : Int} {k : Nat} {D r : Bool} (L1 : LeadIs y1 u1 b k) (L2 : LeadIs y2 u2 (b + d) k) (hb : 0 ≤ b) (hd : 1 ≤ d ∧ d ≤ 4)
    (ht : D = true → u1.n < u2.n + 1 ∧ ∀ j : Nat, j < 7 → (2 + (j : Int)) * sg u1 (2 + (j : Int)) < 1 + (2 + (j : Int)) * sg u2 (2 + (j : Int)))
    (hf : D = false → u2.n + 4 ≤ u1.n ∨ (¬ (u1.count.length ≤ 1 ∧ u2.count.length ≤ 1) ∧ ∃ j : Nat, j < 7 ∧ (2 + j ≤ u1.count.length ∨ 2 + j ≤ u2.count.length) ∧ (2 + (j : Int)) * sg u2 (2 + (j : Int)) + 4 ≤ (2 + (j : Int)) * sg u1 (2 + (j : Int))))
    (h : WsLess y1 y2 r) : r = D := by
  have n1 := L1.n
  have n2 := L2.n
  have l1 := L1.len
  have l2 := L2.len
  have dist : ∀ (ts x : Int), ts * (x + k) = ts * x + ts * k := fun ts x => Int.mul_add _ _ _
  unfold WsLess at h
  split at h
  · subst h
    cases D with
    | false => rfl
    | true => have := (ht rfl).1; omega
  · split at h
    · rename_i hn hs
      have hr : r = true := by rw [h, L1.nt, L2.nt]; simp
      rw [L1.cnt, L2.cnt] at hs
      cases D with
      | true => exact hr
      | false =>
        rcases hf rfl with h9 | h9
        · omega
        · exact absurd ⟨by omega, by omega⟩ h9.1
    · rename_i hn hs
      have hm : (u1.count.length : Int) - 1 ≤ wsMax y1 y2 ∧ (u2.count.length : Int) - 1 ≤ wsMax y1 y2 := by
        have h1 : (u1.count.length : Int) - 1 ≤ wsLong y1 := by unfold wsLong; rw [L1.cnt]; split <;> omega
        have h2 : (u2.count.length : Int) - 1 ≤ wsLong y2 := by unfold wsLong; rw [L2.cnt]; split <;> omega
        unfold wsMax
        split <;> omega
      rcases h with ⟨hr, hup⟩ | ⟨hr, j, hj, hle⟩
      · cases D with
        | true => exact hr
        | false =>
          rcases hf rfl with h9 | ⟨_, j, hj, hjl, hle⟩
          · omega
          · have := hup j (by omega)
            rw [L1.indent, L2.indent, dist, dist] at this
            omega
      · cases D with
        | false => exact hr
        | true =>
          rw [L1.indent, L2.indent, dist, dist] at hle
          by_cases hj7 : j < 7
          · have := (ht rfl).2 j hj7
            omega
          · rw [sg_zero (u := u1) (by omega), sg_zero (u := u2) (by omega)] at hle
            omega
theorem lead_less {p1 p2 : List Int} (h1 : p1 ∈ perms5) (h2 : p2 ∈ perms5) {a b m : Int} (ha : 0 ≤ a ∧ a < 4) (hb : 0 ≤ b ∧ b < 3) (hm : 0 ≤ m ∧ m < 4) {k : Nat} (hk : k < 4) {r : Bool}
    (h : WsLess (wsOf (leadStr [a, 4, 5, 6, 7] b (wKept p1 (k + 1)))) (wsOf (leadStr [a, 4, 5, 6, 7] (b + (1 + m)) (wKept p2 (k + 1)))) r) : r = dueAt p1 p2 k := by
  have hok := less_ok (a := a.toNat) (by omega) hk (kept_in h1 hk) (kept_in h2 hk)
  refine lead_lessB (lead_is h1 ha ⟨hb.1, by omega⟩ hk) (lead_is h2 ha (b := b + (1 + m)) ⟨by omega, by omega⟩ hk) hb.1 ⟨by omega, by omega⟩ (fun e => ?_) (fun e => ?_) h
  · unfold lessOk at hok
    have e : dueK (wKept p1 (k + 1)) (wKept p2 (k + 1)) = true := e
    rw [if_pos e] at hok
    simp only [Bool.and_eq_true, decide_eq_true_eq, List.all_eq_true, List.mem_range] at hok
    exact hok
  · unfold lessOk at hok
    have e : dueK (wKept p1 (k + 1)) (wKept p2 (k + 1)) = false := e
    rw [if_neg (by rw [e]; decide)] at hok
    simp only [Bool.or_eq_true, Bool.and_eq_true, Bool.not_eq_true', Bool.and_eq_false_iff, decide_eq_true_eq, decide_eq_false_iff_not, List.any_eq_true, List.mem_range] at hok
    rcases hok with h9 | ⟨h9, j, hj, h10, h11⟩
    · exact .inl h9
    · exact .inr ⟨by rcases h9 with h9 | h9 <;> omega, j, hj, h10, h11⟩
theorem lead_turn {p1 p2 : List Int} (h1 : p1 ∈ perms5) (h2 : p2 ∈ perms5) {a b m : Int} (ha : 0 ≤ a ∧ a < 4) (hb : 0 ≤ b ∧ b < 3) (hm : 0 ≤ m ∧ m < 4) {k : Nat} (hk : k < 4) {r : Bool}
    (h : WsLess (wsOf (leadStr [a, 4, 5, 6, 7] (b + (1 + m)) (wKept p2 (k + 1)))) (wsOf (leadStr [a, 4, 5, 6, 7] b (wKept p1 (k + 1)))) r) : r = false := by
  have L1 := lead_is h1 ha (b := b) ⟨hb.1, by omega⟩ hk
  have L2 := lead_is h2 ha (b := b + (1 + m)) ⟨by omega, by omega⟩ hk
  generalize wsOf (leadStr [a, 4, 5, 6, 7] b (wKept p1 (k + 1))) = y1 at *
  generalize wsOf (leadStr [a, 4, 5, 6, 7] (b + (1 + m)) (wKept p2 (k + 1))) = y2 at *
  generalize uOf a.toNat (wKept p1 (k + 1)) = u1 at *
  generalize uOf a.toNat (wKept p2 (k + 1)) = u2 at *
  unfold WsLess at h
  split at h
  · exact h
  · rename_i hn
    have n1 := L1.n
    have n2 := L2.n
    split at h
    · rename_i hs
      rw [L1.cnt, L2.cnt] at hs
      have := L1.one (by omega)
      have := L2.one (by omega)
      omega
    · rcases h with ⟨hr, hup⟩ | ⟨hr, _⟩
      · have hm1 : (u1.count.length : Int) - 1 ≤ wsMax y2 y1 ∧ (u2.count.length : Int) - 1 ≤ wsMax y2 y1 ∧ 1 ≤ wsMax y2 y1 := by
          have e1 : (u1.count.length : Int) - 1 ≤ wsLong y1 := by unfold wsLong; rw [L1.cnt]; split <;> omega
          have e2 : (u2.count.length : Int) - 1 ≤ wsLong y2 ∧ 1 ≤ wsLong y2 := by
            have := L2.b
            unfold wsLong; rw [L2.cnt]
            split <;> constructor <;> omega
          unfold wsMax
          split <;> omega
        have := hup ((wsMax y2 y1).toNat - 1) (by omega)
        rw [L1.indent, L2.indent, sg_zero (u := u1) (by omega), sg_zero (u := u2) (by omega)] at this
        omega
      · exact hr
theorem lead_ok {p : List Int} (h : p ∈ perms5) {a b : Int} (ha : 0 ≤ a ∧ a < 4) (hb : 0 ≤ b ∧ b < 7) {k : Nat} (hk : k < 4) :
    (wsOf (leadStr [a, 4, 5, 6, 7] b (wKept p (k + 1)))).count.length ≤ 1000 ∧ 0 ≤ (wsOf (leadStr [a, 4, 5, 6, 7] b (wKept p (k + 1)))).b ∧ (wsOf (leadStr [a, 4, 5, 6, 7] b (wKept p (k + 1)))).b ≤ 1000 := by
  have L := lead_is h ha hb hk
  have := L.len
  rw [L.cnt, L.b]
  omega
end

section
open PySem PySem.W PyProof.Rows PySem.Calls PyProof.V
set_option maxRecDepth 100000
noncomputable def geAll : List Nat → List Nat → Bool
  | a :: r, b :: s => decide (b ≤ a) && geAll r s
  | _, _ => true
noncomputable def pk : List Nat → Nat
  | [] => 0
  | a :: r => 16 * pk r + a
noncomputable def gdn : Nat → Nat
  | 0 => 0
  | n + 1 => 16 * gdn n + 8
theorem and_eight : ∀ x : Fin 16, (x.val &&& 8 = 8) = (8 ≤ x.val) := by decide +kernel
theorem and_split (Y g X : Nat) (hX : X < 16) : ((16 * Y + X) &&& (16 * g + 8) = 16 * g + 8) ↔ ((Y &&& g = g) ∧ 8 ≤ X) := by
  have h1 : ((16 * Y + X) &&& (16 * g + 8)) / 2 ^ 4 = Y &&& g := by
    rw [Nat.and_div_two_pow]
    congr 1 <;> omega
  have h2 : ((16 * Y + X) &&& (16 * g + 8)) % 2 ^ 4 = X &&& 8 := by
    rw [Nat.and_mod_two_pow]
    congr 1 <;> omega
  have h3 : (X &&& 8 = 8) = (8 ≤ X) := and_eight ⟨X, hX⟩
  rw [← h3]
  generalize (16 * Y + X) &&& (16 * g + 8) = N at *
  constructor
  · intro e
    subst e
    constructor
    · rw [← h1]; omega
    · rw [← h2]; omega
  · rintro ⟨e1, e2⟩
    rw [e1] at h1
    rw [e2] at h2
    omega
theorem pk_ge : ∀ (as bs : List Nat), as.length = bs.length → (∀ x ∈ as, x ≤ 7) → (∀ x ∈ bs, x ≤ 7) →
    pk bs ≤ pk as + gdn as.length ∧ (((pk as + gdn as.length - pk bs) &&& gdn as.length = gdn as.length) ↔ geAll as bs = true)
  | [], [], _, _, _ => ⟨Nat.le_refl _, by simp [gdn, geAll]⟩
  | [], _ :: _, h, _, _ => nomatch h
  | _ :: _, [], h, _, _ => nomatch h
  | a :: as, b :: bs, h, ha, hb => by
    obtain ⟨i1, i2⟩ := pk_ge as bs (by simpa using h) (fun x hx => ha x (.tail _ hx)) (fun x hx => hb x (.tail _ hx))
    have ha := ha a (.head _)
    have hb := hb b (.head _)
    simp only [pk, gdn, List.length_cons, geAll, Bool.and_eq_true, decide_eq_true_eq]
    refine ⟨by omega, ?_⟩
    rw [show 16 * pk as + a + (16 * gdn as.length + 8) - (16 * pk bs + b) = 16 * (pk as + gdn as.length - pk bs) + (a + 8 - b) by omega, and_split _ _ _ (by omega), i2]
    constructor
    · rintro ⟨h1, h2⟩; exact ⟨by omega, h1⟩
    · rintro ⟨h1, h2⟩; exact ⟨h2, by omega⟩
noncomputable def rowv (r : List Int) : List Nat := [(1 : Int), 2, 3, 4].map fun b => (lows b r).length
noncomputable def vec (p : List Int) : List Nat := rowv (wKept p 1) ++ (rowv (wKept p 2) ++ (rowv (wKept p 3) ++ rowv (wKept p 4)))
noncomputable def vk (p : List Int) : Nat := pk (vec p)
noncomputable def G16 : Nat := 9838263505978427528
theorem G16_is : gdn 16 = G16 := by decide +kernel
noncomputable def geP (a b : Nat) : Bool := (a + G16 - b) &&& G16 == G16
theorem vec_len (p : List Int) : (vec p).length = 16 := rfl
theorem rowv_le {p : List Int} {k : Nat} (hk : k ≤ 7) : ∀ x ∈ rowv (wKept p k), x ≤ 7 := by
  intro x hx
  obtain ⟨b, _, rfl⟩ := List.mem_map.mp hx
  have := List.length_filter_le (fun y => decide (y < b)) (wKept p k)
  rw [wKept_len] at this
  exact Nat.le_trans this hk
theorem vec_le (p : List Int) : ∀ x ∈ vec p, x ≤ 7 := by
  intro x hx
  unfold vec at hx
  simp only [List.mem_append] at hx
  rcases hx with h | h | h | h
  · exact rowv_le (by omega) x h
  · exact rowv_le (by omega) x h
  · exact rowv_le (by omega) x h
  · exact rowv_le (by omega) x h
theorem geP_is (p q : List Int) : geP (vk p) (vk q) = geAll (vec p) (vec q) := by
  have := (pk_ge (vec p) (vec q) rfl (vec_le p) (vec_le q)).2
  rw [vec_len, G16_is] at this
  unfold geP vk
  cases h : geAll (vec p) (vec q) with
  | true => exact beq_iff_eq.mpr (this.mpr h)
  | false =>
    rw [h] at this
    exact beq_false_of_ne fun e => Bool.false_ne_true (this.mp e)
theorem geAll_map (f g : Int → Nat) : ∀ l : List Int, geAll (l.map f) (l.map g) = decide (l.filter (fun b => decide (f b < g b)) = [])
  | [] => rfl
  | b :: r => by
    rw [List.map_cons, List.map_cons, geAll, geAll_map f g r]
    by_cases h : f b < g b
    · rw [List.filter_cons_of_pos (by simpa using h), decide_eq_false (by omega)]; simp
    · rw [List.filter_cons_of_neg (by simpa using h), decide_eq_true (by omega)]; simp
theorem geAll_app : ∀ (a b c d : List Nat), a.length = b.length → geAll (a ++ c) (b ++ d) = (geAll a b && geAll c d)
  | [], [], c, d, _ => by simp [geAll]
  | [], _ :: _, _, _, h => nomatch h
  | _ :: _, [], _, _, h => nomatch h
  | x :: a, y :: b, c, d, h => by
    rw [List.cons_append, List.cons_append, geAll, geAll, geAll_app a b c d (by simpa using h), Bool.and_assoc]
theorem due_ge (r1 r2 : List Int) : dueK r1 r2 = geAll (rowv r1) (rowv r2) := (geAll_map (fun b => (lows b r1).length) (fun b => (lows b r2).length) [1, 2, 3, 4]).symm
theorem all_due (p q : List Int) : (!(((List.range 4).map (dueAt p q)).any (· == false))) = geP (vk p) (vk q) := by
  rw [geP_is]
  unfold vec
  have e : ∀ (r1 r2 : List Int) (c d : List Nat), geAll (rowv r1 ++ c) (rowv r2 ++ d) = (geAll (rowv r1) (rowv r2) && geAll c d) := fun r1 r2 c d => geAll_app _ _ _ _ rfl
  rw [e, e, e, ← due_ge, ← due_ge, ← due_ge, ← due_ge]
  show (!((dueAt p q 0 == false) || ((dueAt p q 1 == false) || ((dueAt p q 2 == false) || ((dueAt p q 3 == false) || false))))) = (dueAt p q 0 && (dueAt p q 1 && (dueAt p q 2 && dueAt p q 3)))
  cases dueAt p q 0 <;> cases dueAt p q 1 <;> cases dueAt p q 2 <;> cases dueAt p q 3 <;> rfl
noncomputable def tabA : List (Nat × List Nat) := perms5.map fun p => (vk p, places.map fun f => vk (follow p f))
noncomputable def tabB : List (Nat × List (Nat × Nat)) := perms5.map fun q => (vk q, (falls q).map fun f => (f.toNat, vk (exch q f (f + 1))))
end

section
open PySem PySem.W PyProof.Rows PySem.Calls PyProof.V
set_option maxRecDepth 100000
noncomputable def litA : List (Nat × List Nat) := [(4837203692172153105, [4837203692172153105, 4837203692172153105, 4837203692172153105, 4837203692172153105]), (4837203692172153104, [4837203692172153105, 4837203692172153104, 4837203692172153104, 4837203692172153104]), (4837203692171038992, [4837203692171038992, 4837203692172153104, 4837203692171038992, 4837203692171038992]), (4837202519644967184, [4837202519644967184, 4837202519644967184, 4837203692171038992, 4837202519644967184]), (3607438346396111120, [3607438346396111120, 3607438346396111120, 3607438346396111120, 4837202519644967184]), (4837203692171104529, [4837203692171104529, 4837203692172153105, 4837203692171104529, 4837203692171104529]), (4837203692171104512, [4837203692171104529, 4837203692171104512, 4837203692171104512, 4837203692171104512]), (4837203692171038976, [4837203692171038992, 4837203692171104512, 4837203692171038976, 4837203692171038976]), (4837202519644967168, [4837202519644967184, 4837202519644967168, 4837203692171038976, 4837202519644967168]), (3607438346396111104, [3607438346396111120, 3607438346396111104, 3607438346396111104, 4837202519644967168]), (4837202523940000017, [4837202523940000017, 4837202523940000017, 4837203692171104529, 4837202523940000017]), (4837202523940000000, [4837202523940000017, 4837202523940000000, 4837203692171104512, 4837202523940000000]), (4837202523922108672, [4837202523922108672, 4837202523940000000, 4837202523922108672, 4837202523922108672]), (4837202519627141376, [4837202519627141376, 4837202519644967168, 4837202523922108672, 4837202519627141376]), (3607438346378285312, [3607438346378285312, 3607438346396111104, 3607438346378285312, 4837202519627141376]), (3607719825667854609, [3607719825667854609, 3607719825667854609, 3607719825667854609, 4837202523940000017]), (3607719825667854592, [3607719825667854609, 3607719825667854592, 3607719825667854592, 4837202523940000000]), (3607719825649963264, [3607719825649963264, 3607719825667854592, 3607719825649963264, 4837202523922108672]), (3607701060937847040, [3607701060937847040, 3607701060937847040, 3607719825649963264, 3607701060937847040]), (3607419585961136384, [3607419585961136384, 3607419585961136384, 3607438346378285312, 3607701060937847040]), (4837202592660525329, [4837202592660525329, 4837202592660525329, 4837203692172153105, 4837202592660525329]), (4837202592660525328, [4837202592660525329, 4837202592660525328, 4837203692172153104, 4837202592660525328]), (4837202592642634000, [4837202592642634000, 4837202592660525328, 4837202592642634000, 4837202592642634000]), (4837202519628189968, [4837202519628189968, 4837202519644967184, 4837202592642634000, 4837202519628189968]), (3607438346379333904, [3607438346379333904, 3607438346396111120, 3607438346379333904, 4837202519628189968]), (4837202592642699537, [4837202592642699537, 4837202592660525329, 4837202592642699537, 4837202592642699537]), (4837202592642699264, [4837202592642699537, 4837202592642699264, 4837202592642699264, 4837202592642699264]), (4837202592642633728, [4837202592642634000, 4837202592642699264, 4837202592642633728, 4837202592642633728]), (4837202519628189696, [4837202519628189968, 4837202519628189696, 4837202592642633728, 4837202519628189696]), (3607438346379333632, [3607438346379333904, 3607438346379333632, 3607438346379333632, 4837202519628189696]), (4837202523923222801, [4837202523923222801, 4837202523940000017, 4837202592642699537, 4837202523923222801]), (4837202523923222528, [4837202523923222801, 4837202523923222528, 4837202592642699264, 4837202523923222528]), (4837202523922108416, [4837202523922108672, 4837202523923222528, 4837202523922108416, 4837202523922108416]), (4837202519627141120, [4837202519627141376, 4837202519628189696, 4837202523922108416, 4837202519627141120]), (3607438346378285056, [3607438346378285312, 3607438346379333632, 3607438346378285056, 4837202519627141120]), (3607719825651077393, [3607719825651077393, 3607719825667854609, 3607719825651077393, 4837202523923222801]), (3607719825651077120, [3607719825651077393, 3607719825651077120, 3607719825651077120, 4837202523923222528]), (3607719825649963008, [3607719825649963264, 3607719825651077120, 3607719825649963008, 4837202523922108416]), (3607701060937846784, [3607701060937847040, 3607701060937846784, 3607719825649963008, 3607701060937846784]), (3607419585961136128, [3607419585961136384, 3607419585961136128, 3607438346378285056, 3607701060937846784]), (3612223494015750417, [3612223494015750417, 3612223494015750417, 3612223494015750417, 4837202592660525329]), (3612223494015750416, [3612223494015750417, 3612223494015750416, 3612223494015750416, 4837202592660525328]), (3612223493997859088, [3612223493997859088, 3612223494015750416, 3612223493997859088, 4837202592642634000]), (3612204729285742864, [3612204729285742864, 3612204729285742864, 3612223493997859088, 3612204729285742864]), (3607419654681661712, [3607419654681661712, 3607419654681661712, 3607438346379333904, 3612204729285742864]), (3612223493997924625, [3612223493997924625, 3612223494015750417, 3612223493997924625, 4837202592642699537]), (3612223493997924352, [3612223493997924625, 3612223493997924352, 3612223493997924352, 4837202592642699264]), (3612223493997858816, [3612223493997859088, 3612223493997924352, 3612223493997858816, 4837202592642633728]), (3612204729285742592, [3612204729285742864, 3612204729285742592, 3612223493997858816, 3612204729285742592]), (3607419654681661440, [3607419654681661712, 3607419654681661440, 3607438346379333632, 3612204729285742592]), (3612204733580775697, [3612204733580775697, 3612204733580775697, 3612223493997924625, 3612204733580775697]), (3612204733580775424, [3612204733580775697, 3612204733580775424, 3612223493997924352, 3612204733580775424]), (3612204733294448640, [3612204733294448640, 3612204733580775424, 3612204733294448640, 3612204733294448640]), (3612204728999481344, [3612204728999481344, 3612204729285742592, 3612204733294448640, 3612204728999481344]), (3607419654395400192, [3607419654395400192, 3607419654681661440, 3607419654395400192, 3612204728999481344]), (3607701133953405201, [3607701133953405201, 3607701133953405201, 3607719825651077393, 3612204733580775697]), (3607701133953404928, [3607701133953405201, 3607701133953404928, 3607719825651077120, 3612204733580775424]), (3607701133667078144, [3607701133667078144, 3607701133953404928, 3607701133667078144, 3612204733294448640]), (3607701060652634112, [3607701060652634112, 3607701060937846784, 3607701133667078144, 3607701060652634112]), (3607419585675923456, [3607419585675923456, 3607419585961136128, 3607419654395400192, 3607701060652634112]), (3684282187565306129, [3684282187565306129, 3684282187565306129, 3684282187565306129, 4837203692172153105]), (3684282187565306128, [3684282187565306129, 3684282187565306128, 3684282187565306128, 4837203692172153104]), (3684282187564192016, [3684282187564192016, 3684282187565306128, 3684282187564192016, 4837203692171038992]), (3684263422852075792, [3684263422852075792, 3684263422852075792, 3684282187564192016, 3684263422852075792]), (3607420754210066704, [3607420754210066704, 3607420754210066704, 3607438346396111120, 3684263422852075792]), (3684282187564257553, [3684282187564257553, 3684282187565306129, 3684282187564257553, 4837203692171104529]), (3684282187564257536, [3684282187564257553, 3684282187564257536, 3684282187564257536, 4837203692171104512]), (3684282187564192000, [3684282187564192016, 3684282187564257536, 3684282187564192000, 4837203692171038976]), (3684263422852075776, [3684263422852075792, 3684263422852075776, 3684282187564192000, 3684263422852075776]), (3607420754210066688, [3607420754210066704, 3607420754210066688, 3607438346396111104, 3684263422852075776]), (3684263427147108625, [3684263427147108625, 3684263427147108625, 3684282187564257553, 3684263427147108625]), (3684263427147108608, [3684263427147108625, 3684263427147108608, 3684282187564257536, 3684263427147108608]), (3684263426860781824, [3684263426860781824, 3684263427147108608, 3684263426860781824, 3684263426860781824]), (3684263422565814528, [3684263422565814528, 3684263422852075776, 3684263426860781824, 3684263422565814528]), (3607420753923805440, [3607420753923805440, 3607420754210066688, 3607420753923805440, 3684263422565814528]), (3607702233481810193, [3607702233481810193, 3607702233481810193, 3607719825667854609, 3684263427147108625]), (3607702233481810176, [3607702233481810193, 3607702233481810176, 3607719825667854592, 3684263427147108608]), (3607702233195483392, [3607702233195483392, 3607702233481810176, 3607702233195483392, 3684263426860781824]), (3607701060669411584, [3607701060669411584, 3607701060937847040, 3607702233195483392, 3607701060669411584]), (3607419585692700928, [3607419585692700928, 3607419585961136384, 3607420753923805440, 3607701060669411584]), (3684263495867633937, [3684263495867633937, 3684263495867633937, 3684282187565306129, 3684263495867633937]), (3684263495867633936, [3684263495867633937, 3684263495867633936, 3684282187565306128, 3684263495867633936]), (3684263495581307152, [3684263495581307152, 3684263495867633936, 3684263495581307152, 3684263495581307152]), (3684263422566863120, [3684263422566863120, 3684263422852075792, 3684263495581307152, 3684263422566863120]), (3607420753924854032, [3607420753924854032, 3607420754210066704, 3607420753924854032, 3684263422566863120]), (3684263495581372689, [3684263495581372689, 3684263495867633937, 3684263495581372689, 3684263495581372689]), (3684263495581368320, [3684263495581372689, 3684263495581368320, 3684263495581368320, 3684263495581368320]), (3684263495581302784, [3684263495581307152, 3684263495581368320, 3684263495581302784, 3684263495581302784]), (3684263422566858752, [3684263422566863120, 3684263422566858752, 3684263495581302784, 3684263422566858752]), (3607420753924849664, [3607420753924854032, 3607420753924849664, 3607420753924849664, 3684263422566858752]), (3684263426861895953, [3684263426861895953, 3684263427147108625, 3684263495581372689, 3684263426861895953]), (3684263426861891584, [3684263426861895953, 3684263426861891584, 3684263495581368320, 3684263426861891584]), (3684263426860777472, [3684263426860781824, 3684263426861891584, 3684263426860777472, 3684263426860777472]), (3684263422565810176, [3684263422565814528, 3684263422566858752, 3684263426860777472, 3684263422565810176]), (3607420753923801088, [3607420753923805440, 3607420753924849664, 3607420753923801088, 3684263422565810176]), (3607702233196597521, [3607702233196597521, 3607702233481810193, 3607702233196597521, 3684263426861895953]), (3607702233196593152, [3607702233196597521, 3607702233196593152, 3607702233196593152, 3684263426861891584]), (3607702233195479040, [3607702233195483392, 3607702233196593152, 3607702233195479040, 3684263426860777472]), (3607701060669407232, [3607701060669411584, 3607701060669407232, 3607702233195479040, 3607701060669407232]), (3607419585692696576, [3607419585692700928, 3607419585692696576, 3607420753923801088, 3607701060669407232]), (3612205901829706001, [3612205901829706001, 3612205901829706001, 3612223494015750417, 3684263495867633937]), (3612205901829706000, [3612205901829706001, 3612205901829706000, 3612223494015750416, 3684263495867633936]), (3612205901543379216, [3612205901543379216, 3612205901829706000, 3612205901543379216, 3684263495581307152]), (3612204729017307408, [3612204729017307408, 3612204729285742864, 3612205901543379216, 3612204729017307408]), (3607419654413226256, [3607419654413226256, 3607419654681661712, 3607420753924854032, 3612204729017307408]), (3612205901543444753, [3612205901543444753, 3612205901829706001, 3612205901543444753, 3684263495581372689]), (3612205901543440384, [3612205901543444753, 3612205901543440384, 3612205901543440384, 3684263495581368320]), (3612205901543374848, [3612205901543379216, 3612205901543440384, 3612205901543374848, 3684263495581302784]), (3612204729017303040, [3612204729017307408, 3612204729017303040, 3612205901543374848, 3612204729017303040]), (3607419654413221888, [3607419654413226256, 3607419654413221888, 3607420753924849664, 3612204729017303040]), (3612204733312340241, [3612204733312340241, 3612204733580775697, 3612205901543444753, 3612204733312340241]), (3612204733312335872, [3612204733312340241, 3612204733312335872, 3612205901543440384, 3612204733312335872]), (3612204733294444544, [3612204733294448640, 3612204733312335872, 3612204733294444544, 3612204733294444544]), (3612204728999477248, [3612204728999481344, 3612204729017303040, 3612204733294444544, 3612204728999477248]), (3607419654395396096, [3607419654395400192, 3607419654413221888, 3607419654395396096, 3612204728999477248]), (3607701133684969745, [3607701133684969745, 3607701133953405201, 3607702233196597521, 3612204733312340241]), (3607701133684965376, [3607701133684969745, 3607701133684965376, 3607702233196593152, 3612204733312335872]), (3607701133667074048, [3607701133667078144, 3607701133684965376, 3607701133667074048, 3612204733294444544]), (3607701060652630016, [3607701060652634112, 3607701060669407232, 3607701133667074048, 3607701060652630016]), (3607419585675919360, [3607419585675923456, 3607419585692696576, 3607419654395396096, 3607701060652630016])]
noncomputable def litB : List (Nat × List (Nat × Nat)) := [(4837203692172153105, []), (4837203692172153104, [(0, 4837203692172153105)]), (4837203692171038992, [(1, 4837203692172153104)]), (4837202519644967184, [(2, 4837203692171038992)]), (3607438346396111120, [(3, 4837202519644967184)]), (4837203692171104529, [(1, 4837203692172153105)]), (4837203692171104512, [(0, 4837203692171104529)]), (4837203692171038976, [(0, 4837203692171038992), (1, 4837203692171104512)]), (4837202519644967168, [(0, 4837202519644967184), (2, 4837203692171038976)]), (3607438346396111104, [(0, 3607438346396111120), (3, 4837202519644967168)]), (4837202523940000017, [(2, 4837203692171104529)]), (4837202523940000000, [(0, 4837202523940000017), (2, 4837203692171104512)]), (4837202523922108672, [(1, 4837202523940000000)]), (4837202519627141376, [(1, 4837202519644967168), (2, 4837202523922108672)]), (3607438346378285312, [(1, 3607438346396111104), (3, 4837202519627141376)]), (3607719825667854609, [(3, 4837202523940000017)]), (3607719825667854592, [(0, 3607719825667854609), (3, 4837202523940000000)]), (3607719825649963264, [(1, 3607719825667854592), (3, 4837202523922108672)]), (3607701060937847040, [(2, 3607719825649963264)]), (3607419585961136384, [(2, 3607438346378285312), (3, 3607701060937847040)]), (4837202592660525329, [(2, 4837203692172153105)]), (4837202592660525328, [(0, 4837202592660525329), (2, 4837203692172153104)]), (4837202592642634000, [(1, 4837202592660525328)]), (4837202519628189968, [(1, 4837202519644967184), (2, 4837202592642634000)]), (3607438346379333904, [(1, 3607438346396111120), (3, 4837202519628189968)]), (4837202592642699537, [(1, 4837202592660525329)]), (4837202592642699264, [(0, 4837202592642699537)]), (4837202592642633728, [(0, 4837202592642634000), (1, 4837202592642699264)]), (4837202519628189696, [(0, 4837202519628189968), (2, 4837202592642633728)]), (3607438346379333632, [(0, 3607438346379333904), (3, 4837202519628189696)]), (4837202523923222801, [(1, 4837202523940000017), (2, 4837202592642699537)]), (4837202523923222528, [(0, 4837202523923222801), (2, 4837202592642699264)]), (4837202523922108416, [(0, 4837202523922108672), (1, 4837202523923222528)]), (4837202519627141120, [(0, 4837202519627141376), (1, 4837202519628189696), (2, 4837202523922108416)]), (3607438346378285056, [(0, 3607438346378285312), (1, 3607438346379333632), (3, 4837202519627141120)]), (3607719825651077393, [(1, 3607719825667854609), (3, 4837202523923222801)]), (3607719825651077120, [(0, 3607719825651077393), (3, 4837202523923222528)]), (3607719825649963008, [(0, 3607719825649963264), (1, 3607719825651077120), (3, 4837202523922108416)]), (3607701060937846784, [(0, 3607701060937847040), (2, 3607719825649963008)]), (3607419585961136128, [(0, 3607419585961136384), (2, 3607438346378285056), (3, 3607701060937846784)]), (3612223494015750417, [(3, 4837202592660525329)]), (3612223494015750416, [(0, 3612223494015750417), (3, 4837202592660525328)]), (3612223493997859088, [(1, 3612223494015750416), (3, 4837202592642634000)]), (3612204729285742864, [(2, 3612223493997859088)]), (3607419654681661712, [(2, 3607438346379333904), (3, 3612204729285742864)]), (3612223493997924625, [(1, 3612223494015750417), (3, 4837202592642699537)]), (3612223493997924352, [(0, 3612223493997924625), (3, 4837202592642699264)]), (3612223493997858816, [(0, 3612223493997859088), (1, 3612223493997924352), (3, 4837202592642633728)]), (3612204729285742592, [(0, 3612204729285742864), (2, 3612223493997858816)]), (3607419654681661440, [(0, 3607419654681661712), (2, 3607438346379333632), (3, 3612204729285742592)]), (3612204733580775697, [(2, 3612223493997924625)]), (3612204733580775424, [(0, 3612204733580775697), (2, 3612223493997924352)]), (3612204733294448640, [(1, 3612204733580775424)]), (3612204728999481344, [(1, 3612204729285742592), (2, 3612204733294448640)]), (3607419654395400192, [(1, 3607419654681661440), (3, 3612204728999481344)]), (3607701133953405201, [(2, 3607719825651077393), (3, 3612204733580775697)]), (3607701133953404928, [(0, 3607701133953405201), (2, 3607719825651077120), (3, 3612204733580775424)]), (3607701133667078144, [(1, 3607701133953404928), (3, 3612204733294448640)]), (3607701060652634112, [(1, 3607701060937846784), (2, 3607701133667078144)]), (3607419585675923456, [(1, 3607419585961136128), (2, 3607419654395400192), (3, 3607701060652634112)]), (3684282187565306129, [(3, 4837203692172153105)]), (3684282187565306128, [(0, 3684282187565306129), (3, 4837203692172153104)]), (3684282187564192016, [(1, 3684282187565306128), (3, 4837203692171038992)]), (3684263422852075792, [(2, 3684282187564192016)]), (3607420754210066704, [(2, 3607438346396111120), (3, 3684263422852075792)]), (3684282187564257553, [(1, 3684282187565306129), (3, 4837203692171104529)]), (3684282187564257536, [(0, 3684282187564257553), (3, 4837203692171104512)]), (3684282187564192000, [(0, 3684282187564192016), (1, 3684282187564257536), (3, 4837203692171038976)]), (3684263422852075776, [(0, 3684263422852075792), (2, 3684282187564192000)]), (3607420754210066688, [(0, 3607420754210066704), (2, 3607438346396111104), (3, 3684263422852075776)]), (3684263427147108625, [(2, 3684282187564257553)]), (3684263427147108608, [(0, 3684263427147108625), (2, 3684282187564257536)]), (3684263426860781824, [(1, 3684263427147108608)]), (3684263422565814528, [(1, 3684263422852075776), (2, 3684263426860781824)]), (3607420753923805440, [(1, 3607420754210066688), (3, 3684263422565814528)]), (3607702233481810193, [(2, 3607719825667854609), (3, 3684263427147108625)]), (3607702233481810176, [(0, 3607702233481810193), (2, 3607719825667854592), (3, 3684263427147108608)]), (3607702233195483392, [(1, 3607702233481810176), (3, 3684263426860781824)]), (3607701060669411584, [(1, 3607701060937847040), (2, 3607702233195483392)]), (3607419585692700928, [(1, 3607419585961136384), (2, 3607420753923805440), (3, 3607701060669411584)]), (3684263495867633937, [(2, 3684282187565306129)]), (3684263495867633936, [(0, 3684263495867633937), (2, 3684282187565306128)]), (3684263495581307152, [(1, 3684263495867633936)]), (3684263422566863120, [(1, 3684263422852075792), (2, 3684263495581307152)]), (3607420753924854032, [(1, 3607420754210066704), (3, 3684263422566863120)]), (3684263495581372689, [(1, 3684263495867633937)]), (3684263495581368320, [(0, 3684263495581372689)]), (3684263495581302784, [(0, 3684263495581307152), (1, 3684263495581368320)]), (3684263422566858752, [(0, 3684263422566863120), (2, 3684263495581302784)]), (3607420753924849664, [(0, 3607420753924854032), (3, 3684263422566858752)]), (3684263426861895953, [(1, 3684263427147108625), (2, 3684263495581372689)]), (3684263426861891584, [(0, 3684263426861895953), (2, 3684263495581368320)]), (3684263426860777472, [(0, 3684263426860781824), (1, 3684263426861891584)]), (3684263422565810176, [(0, 3684263422565814528), (1, 3684263422566858752), (2, 3684263426860777472)]), (3607420753923801088, [(0, 3607420753923805440), (1, 3607420753924849664), (3, 3684263422565810176)]), (3607702233196597521, [(1, 3607702233481810193), (3, 3684263426861895953)]), (3607702233196593152, [(0, 3607702233196597521), (3, 3684263426861891584)]), (3607702233195479040, [(0, 3607702233195483392), (1, 3607702233196593152), (3, 3684263426860777472)]), (3607701060669407232, [(0, 3607701060669411584), (2, 3607702233195479040)]), (3607419585692696576, [(0, 3607419585692700928), (2, 3607420753923801088), (3, 3607701060669407232)]), (3612205901829706001, [(2, 3612223494015750417), (3, 3684263495867633937)]), (3612205901829706000, [(0, 3612205901829706001), (2, 3612223494015750416), (3, 3684263495867633936)]), (3612205901543379216, [(1, 3612205901829706000), (3, 3684263495581307152)]), (3612204729017307408, [(1, 3612204729285742864), (2, 3612205901543379216)]), (3607419654413226256, [(1, 3607419654681661712), (2, 3607420753924854032), (3, 3612204729017307408)]), (3612205901543444753, [(1, 3612205901829706001), (3, 3684263495581372689)]), (3612205901543440384, [(0, 3612205901543444753), (3, 3684263495581368320)]), (3612205901543374848, [(0, 3612205901543379216), (1, 3612205901543440384), (3, 3684263495581302784)]), (3612204729017303040, [(0, 3612204729017307408), (2, 3612205901543374848)]), (3607419654413221888, [(0, 3607419654413226256), (2, 3607420753924849664), (3, 3612204729017303040)]), (3612204733312340241, [(1, 3612204733580775697), (2, 3612205901543444753)]), (3612204733312335872, [(0, 3612204733312340241), (2, 3612205901543440384)]), (3612204733294444544, [(0, 3612204733294448640), (1, 3612204733312335872)]), (3612204728999477248, [(0, 3612204728999481344), (1, 3612204729017303040), (2, 3612204733294444544)]), (3607419654395396096, [(0, 3607419654395400192), (1, 3607419654413221888), (3, 3612204728999477248)]), (3607701133684969745, [(1, 3607701133953405201), (2, 3607702233196597521), (3, 3612204733312340241)]), (3607701133684965376, [(0, 3607701133684969745), (2, 3607702233196593152), (3, 3612204733312335872)]), (3607701133667074048, [(0, 3607701133667078144), (1, 3607701133684965376), (3, 3612204733294444544)]), (3607701060652630016, [(0, 3607701060652634112), (1, 3607701060669407232), (2, 3607701133667074048)]), (3607419585675919360, [(0, 3607419585675923456), (1, 3607419585692696576), (2, 3607419654395396096), (3, 3607701060652630016)])]
theorem litA_is : tabA = litA := by decide +kernel
theorem litB_is : tabB = litB := by decide +kernel
theorem lift_all : (litA.all fun x => litB.all fun y => y.2.all fun z => geP x.1 y.1 == geP (x.2.getD z.1 0) z.2) = true := by decide +kernel
theorem lift_of {A : List (Nat × List Nat)} {B : List (Nat × List (Nat × Nat))} (h : (A.all fun x => B.all fun y => y.2.all fun z => geP x.1 y.1 == geP (x.2.getD z.1 0) z.2) = true) {a : Nat} {as : List Nat} {b : Nat} {bs : List (Nat × Nat)} {z : Nat × Nat}
    (h1 : (a, as) ∈ A) (h2 : (b, bs) ∈ B) (h3 : z ∈ bs) : geP a b = geP (as.getD z.1 0) z.2 :=
  eq_of_beq (List.all_eq_true.mp (List.all_eq_true.mp (List.all_eq_true.mp h (a, as) h1) (b, bs) h2) z h3)
theorem lift {p q : List Int} (hp : p ∈ perms5) (hq : q ∈ perms5) {f : Int} (hf : f ∈ falls q) : geP (vk p) (vk q) = geP (vk (follow p f)) (vk (exch q f (f + 1))) := by
  have h1 : (vk p, places.map fun f => vk (follow p f)) ∈ litA := by rw [← litA_is]; exact List.mem_map_of_mem (f := fun p => (vk p, places.map fun f => vk (follow p f))) hp
  have h2 : (vk q, (falls q).map fun f => (f.toNat, vk (exch q f (f + 1)))) ∈ litB := by rw [← litB_is]; exact List.mem_map_of_mem (f := fun q => (vk q, (falls q).map fun f => (f.toNat, vk (exch q f (f + 1))))) hq
  have h3 : (f.toNat, vk (exch q f (f + 1))) ∈ (falls q).map fun f => (f.toNat, vk (exch q f (f + 1))) := List.mem_map_of_mem (f := fun f => (f.toNat, vk (exch q f (f + 1)))) hf
  have := lift_of lift_all h1 h2 h3
  rw [this]
  have hf0 := place_is (List.mem_filter.mp hf).1
  have e : (places.map fun f => vk (follow p f)).getD f.toNat 0 = vk (follow p f) := by
    have : f = 0 ∨ f = 1 ∨ f = 2 ∨ f = 3 := by omega
    rcases this with rfl | rfl | rfl | rfl <;> rfl
  exact congrArg (fun x => geP x _) e
theorem fall_all : (perms5.all fun q => (falls q).all fun f => pc (fl (exch q f (f + 1))) + 1 == pc (fl q)) = true := by decide +kernel
theorem done_all : (perms5.all fun q => !decide (falls q = []) || q == [0, 1, 2, 3, 4]) = true := by decide +kernel
theorem one_all : (litA.all fun x => geP x.1 (vk [0, 1, 2, 3, 4]) == (x.1 == vk [0, 1, 2, 3, 4])) = true := by decide +kernel
theorem one_by : (perms5.all fun p => (vk p == vk [0, 1, 2, 3, 4]) == (p == [0, 1, 2, 3, 4])) = true := by decide +kernel
theorem one_of {A : List (Nat × List Nat)} {v : Nat} (h : (A.all fun x => geP x.1 v == (x.1 == v)) = true) {a : Nat} {as : List Nat} (h1 : (a, as) ∈ A) : geP a v = (a == v) := eq_of_beq (List.all_eq_true.mp h (a, as) h1)
theorem at_one {p : List Int} (hp : p ∈ perms5) : geP (vk p) (vk [0, 1, 2, 3, 4]) = decide (p = [0, 1, 2, 3, 4]) := by
  have h1 : (vk p, places.map fun f => vk (follow p f)) ∈ litA := by rw [← litA_is]; exact List.mem_map_of_mem (f := fun p => (vk p, places.map fun f => vk (follow p f))) hp
  rw [one_of one_all h1]
  have := eq_of_beq (List.all_eq_true.mp one_by p hp)
  rw [this]
  exact Bool.eq_iff_iff.mpr (by simp)
theorem fallOf_mem {q : List Int} (turn : Int) (i : Nat) (h : falls q ≠ []) : fallOf turn i q ∈ falls q := by
  have hl : 0 < (falls q).length := List.length_pos_iff.mpr h
  unfold fallOf
  refine getD_mem ?_
  have h1 := Int.fmod_nonneg_of_pos (turn + (0 + (i : Int))) (b := ((falls q).length : Int)) (by omega)
  have h2 := Int.fmod_lt_of_pos (turn + (0 + (i : Int))) (b := ((falls q).length : Int)) (by omega)
  omega
theorem follow_perm {p : List Int} (hp : p ∈ perms5) {f : Int} (h : 0 ≤ f ∧ f < 4) : follow p f ∈ perms5 := by
  unfold follow
  split
  · exact exch_perm hp ⟨h.1, by omega⟩ ⟨by omega, by omega⟩
  · exact hp
theorem bes_run (turn : Int) : ∀ (k i : Nat) (p q : List Int), p ∈ perms5 → q ∈ perms5 → pc (fl q) ≤ k → geP (vk p) (vk q) = decide (besRun turn k i p q = [0, 1, 2, 3, 4]) := by
  have base : ∀ p q, p ∈ perms5 → q ∈ perms5 → falls q = [] → geP (vk p) (vk q) = decide (p = [0, 1, 2, 3, 4]) := fun p q hp hq h0 => by
    have := List.all_eq_true.mp done_all q hq
    rw [h0] at this
    have e : q = [0, 1, 2, 3, 4] := by simpa using this
    rw [e, at_one hp]
  have step : ∀ q, q ∈ perms5 → ∀ f ∈ falls q, pc (fl (exch q f (f + 1))) + 1 = pc (fl q) := fun q hq f hf => eq_of_beq (List.all_eq_true.mp (List.all_eq_true.mp fall_all q hq) f hf)
  intro k
  induction k with
  | zero =>
    intro i p q hp hq hk
    refine base p q hp hq ?_
    cases e : falls q with
    | nil => rfl
    | cons f l =>
      have := step q hq f (by rw [e]; exact .head _)
      omega
  | succ k ih =>
    intro i p q hp hq hk
    have e : besRun turn (k + 1) i p q = if falls q = [] then p else besRun turn k (i + 1) (follow p (fallOf turn i q)) (exch q (fallOf turn i q) (fallOf turn i q + 1)) := rfl
    rw [e]
    by_cases h0 : falls q = []
    · rw [if_pos h0]; exact base p q hp hq h0
    · rw [if_neg h0]
      have hm := fallOf_mem turn i h0
      have hf := place_is (List.mem_filter.mp hm).1
      have := step q hq _ hm
      rw [lift hp hq hm]
      exact ih (i + 1) _ _ (follow_perm hp hf) (exch_perm hq ⟨hf.1, by omega⟩ ⟨by omega, by omega⟩) (by omega)
theorem all_beside {p1 p2 : List Int} (h1 : p1 ∈ perms5) (h2 : p2 ∈ perms5) (turn : Int) :
    (!(((List.range 4).map (dueAt p1 p2)).any (· == false))) = decide (besRun turn 10 0 p1 p2 = [0, 1, 2, 3, 4]) := by
  rw [all_due]
  exact bes_run turn 10 0 p1 p2 h1 h2 (pc_le _)
end

section
open PySem PySem.W PyProof.Rows PySem.Calls PyProof.V PySem.Spec PySem.SeqAt
set_option maxRecDepth 100000
theorem instNews {h₀ h : Heap} {L x dx : Addr} {od : Obj} {news : List (Addr × Obj)} (N : News h₀ L h news) (m1 : (x, instObj 83 dx) ∈ news) (m2 : (dx, od) ∈ news) : InstAt h x (instObj 83 dx) 83 (some od) := ⟨N.get m1, rfl, rfl, N.get m2⟩
noncomputable def dueU (f : Nat → Bool) : Value → Value
  | .int k _ => .bool (f k.toNat)
  | _ => .bool false
theorem due_list {f : Nat → Bool} : ∀ {us : List Value} {ns : List Int}, IntsAre us ns → us.map (dueU f) = (ns.map fun k => f k.toNat).map Value.bool
  | _, _, .nil => rfl
  | _, _, .cons n t r => by
    rw [List.map_cons, due_list r]; rfl
theorem paired_map {g : Value → Value} : ∀ {us ws : List Value}, Paired (fun v u => u = g v) us ws → ws = us.map g
  | _, _, .nil => rfl
  | _, _, .cons e r => by rw [e, paired_map r]; rfl
theorem filter_true (us : List Value) : us.filter (fun _ => true) = us := List.filter_eq_self.mpr fun _ _ => rfl
theorem bool_at {bs : List Bool} {v : Value} {j : Nat} (h : (bs.map Value.bool)[j]? = some v) : ∃ b, v = .bool b := by
  rw [List.getElem?_map] at h
  cases e : bs[j]? with
  | none => rw [e] at h; cases h
  | some b => rw [e] at h; exact ⟨b, (Option.some.inj h).symm⟩
section
variable {prog : Program} {w : World} {A : Around} {E : Value → Shared → Prop} {s : Shared}
theorem ne_bools_same {a b : Addr} {vs us : List Value} {bs : List Bool} {Q : Value → Shared → Prop} (hl : s.heap.IsList a vs.toArray) (hl' : s.heap.IsList b us.toArray) (e1 : vs = bs.map Value.bool) (e2 : us = bs.map Value.bool) (hu : A.units + 64 < cLine)
    (h : Q (.bool false) s) : wpAny (model prog w) A (compareOp .NotEq (.ref a) (.ref b)) Q E s := by
  subst e1 e2
  exact ne_bools hl hl' hu (by rw [decide_eq_true rfl]; exact h)
theorem eqBool_bool {a b : Bool} {Q : Bool → Shared → Prop} (h : Q (a == b) s) : wpAny (model prog w) A (eqBool (.bool a) (.bool b)) Q E s := by
  unfold eqBool
  show wpAny _ _ (if (Value.bool a == Value.bool b) = true then _ else _) Q E s
  by_cases hab : (Value.bool a == Value.bool b) = true
  · rw [if_pos hab]
    have e : a = b := by have := eq_of_beq hab; injection this
    subst e
    exact wpAny_bind (wpAny_rule (wpAny_pure (by simpa using h)))
  · rw [if_neg hab]
    exact wpAny_bind (PyProof.Rows.eq_bool (wpAny_truthy_bool h))
noncomputable def isFalse : Value → Bool
  | .bool b => b == false
  | _ => false
theorem any_isFalse : ∀ bs : List Bool, (bs.map Value.bool).any isFalse = bs.any (· == false)
  | [] => rfl
  | b :: r => by rw [List.map_cons, List.any_cons, List.any_cons, any_isFalse r]; rfl
theorem notin_bools {l : Addr} {vs : List Value} {bs : List Bool} {Q : Value → Shared → Prop} (hl : s.heap.IsList l vs.toArray) (e : vs = bs.map Value.bool)
    (h : Q (.bool (!(bs.any (· == false)))) s) : wpAny (model prog w) A (compareOp .NotIn (.bool false) (.ref l)) Q E s := by
  subst e
  refine SeqInW.notIn_listW isFalse (fun y hy => ?_) hl ?_
  · have hy : y ∈ bs.map Value.bool := by simpa using hy
    obtain ⟨b, _, rfl⟩ := List.mem_map.mp hy
    exact fun _ _ _ _ _ _ h => eqBool_bool h
  · rw [← Array.any_toList, show (bs.map Value.bool).toArray.toList = bs.map Value.bool from rfl, any_isFalse]
    exact h
end
theorem false_at {v : Value} {j : Nat} (h : (((List.range 4).map fun _ => false).map Value.bool)[j]? = some v) : v = .bool false := by
  have := List.mem_of_getElem? h
  simp at this
  exact this.2.symm
theorem paired_const {c : Value} {us ws : List Value} (h : Paired (fun _ u => u = c) us ws) : ws = us.map fun _ => c := paired_map (g := fun _ => c) h
end

section
open PySem PySem.W PyProof.Rows PySem.Calls PyProof.V
set_option maxRecDepth 100000
structure Ord where
  D : Addr
  vs : List Value
  c : Nat
  p : List Int
  t1 : Tok
  t2 : Tok
  t3 : Tok
  t4 : Tok
structure Due where
  o : Obj
  bs : List Bool
  c : Nat
/-- off the six cells behind L -/
structure OffC (L : Nat) (D : Nat) : Prop where
  c1 : D ≠ L + 1
  c2 : D ≠ L + 1 + 1
  c3 : D ≠ L + 1 + 1 + 1
  c4 : D ≠ L + 1 + 1 + 1 + 1
  c5 : D ≠ L + 1 + 1 + 1 + 1 + 1
  c6 : D ≠ L + 1 + 1 + 1 + 1 + 1 + 1
local macro_rules | `(tactic| walk_at "subscriptTail Name Slice ref ref") => `(tactic| (k_here; (with_reducible show wpAny _ _ (subscriptTail _ (PySem.Expr.Slice _ _ (some _) _) (Value.ref _) (Value.ref _)) _ _ _); k_dflt (refine' slice3_ints ?F ?N ?l ?p ?q ?k ?o ?i ?_ ?s ?t ?z; (case F => k_asm); (case N => k_asm); (case l => kmk_list); (case p => kmk_part); (case q => kmk_part); (case k => kmk_part); (case o => decide); (case i => assumption); (case s => with_unfolding_all rfl); (case t => kmk_pure); (case z => (rw [List.size_toArray, IntsAre.length (by assumption), sizeLine_eq]; omega))); intro D' ws' ms' h' F' N' l1 hI' hL'; (try k_lt l1)))
local macro_rules | `(tactic| walk_at "exec For Name BinOp cons nil") => `(tactic| refine Hold.out ?_)
local macro_rules | `(tactic| walk_at "eval ListComp") => `(tactic| refine Hold.out ?_)
local macro_rules | `(tactic| walk_at "call builtin:str.split") => `(tactic| (
  (with_reducible show wpAny _ _ (call (Value.builtin "str.split") [_, _]) _ _ _);
  refine' splitCall ?n ?_; (case n => assumption); intro D9 vs9 h9 k9 hS9 hL9 st9; (rename Fr _ _ _ _ => F9); (rename News _ _ _ _ => N9); replace F9 := frStays F9 st9; replace N9 := newsStays N9 st9; dsimp only at F9 N9 ⊢))
local macro_rules | `(tactic| walk_at "compareOp Eq ref ref") => `(tactic| (
  (with_reducible show wpAny _ _ (compareOp CmpOp.Eq (Value.ref _) (Value.ref _)) _ _ _);
  k_dflt (refine' eq_strs_nil ?k1 ?k2 ?k3 ?k4 ?k5 ?_; (case k1 => walk_at "my list"); (case k2 => assumption); (case k3 => walk_at "my list"); (case k4 => exact kept_ok); (case k5 => ktr_units))))
local macro_rules | `(tactic| walk_at "subscriptTail Name Name ref int") => `(tactic| (
  k_dflt (refine' item_valN ?N ?m ?v ?a ?z ?_ ?hs ?hg; (case N => assumption); (case m => k_mem); (case v => assumption); (case a => first | assumption | omega); (case z => first | assumption | omega); (case hs => with_unfolding_all rfl); (case hg => intro _; with_unfolding_all rfl))))
local macro_rules | `(tactic| walk_at "call builtin:list.append") => `(tactic| refine Hold.out ?_)
local macro_rules | `(tactic| k_inst) => `(tactic| assumption)
local macro_rules | `(tactic| walk_at "compareOp NotEq ref ref") => `(tactic| (
  (with_reducible show wpAny _ _ (compareOp CmpOp.NotEq (Value.ref _) (Value.ref _)) _ _ _);
  k_dflt (refine' ne_bools_same ?k1 ?k2 ?k3 ?k4 ?k5 ?_; (case k1 => walk_at "my list"); (case k2 => walk_at "my list"); (case k3 => assumption); (case k4 => first | assumption | exact rfl); (case k5 => ktr_units))))
local macro_rules | `(tactic| walk_at "compareOp NotIn bool ref") => `(tactic| (
  k_dflt (refine' notin_bools ?k1 ?k2 ?_; (case k1 => walk_at "my list"); (case k2 => assumption))))
set_option maxHeartbeats 8000000 in
theorem law_spec {w : World} {dp un : Nat} {fr : Option (List Env)} {gd : Option (List Code)} {s : Shared} {p : Program} {loose : List Str} {mg mb : Str → Option Value} {Q E : Value → Shared → Prop}
    {l : Addr} {vs : List Value} {ns : List Int}
    (X : (hd.heap_39 w.params).In s.heap) (T : TopRead p loose mg mb s.heap) (hroom : dp + 10 < recursionLimit) (hun : un + 400 < cLine)
    (hl : s.heap.IsList l vs.toArray) (hI : IntsAre vs ns) (hn : ns.length ≤ 63)
    (h : ∀ h' tk, s.heap.StaysIn h' → Q (.bool true) { s with heap := h', toks := tk }) :
    wpAny (model PySem.Challenge.rw_sn0043_01.row.prog w) (ar dp un fr gd) (call (.ref 156) [.ref l]) Q E s := by
  refine wpAny_call ?_
  revert X
  k_fill
  intro X
  refine' codeNC (hid := []) (h₀ := s.heap) (binds := [(Str.ofString "script", .ref l)]) X T (fun _ _ e => e) (fun p hp => nomatch hp) ?k3 ?k4 ?k5 ?k6 ?k7 ?k8 ?_ ?c1 ?c2 ?c3
  (case k3 => ktr_room)
  (case k4 => k_is)
  (case k5 => k_is)
  (case k6 => exact BindsTo.of_eq rfl)
  (case k7 => exact rfl)
  (case k8 => decide +kernel)
  (case c1 => exact rfl)
  (case c2 => exact rfl)
  (case c3 => exact rfl)
  intro g h₁ tk₁ cells kg kg₀ Xg Tg hlt F N Y
  obtain ⟨o1, o2, o3, o4, o5, o6, hE, d1, d2, d3, d4, d5, d6⟩ := kc_six Y
  subst hE
  clear Y X T hlt
  simp only [List.append_nil] at N
  replace d1 : o1.data = .cell none := d1
  replace d2 : o2.data = .cell none := d2
  replace d3 : o3.data = .cell none := d3
  replace d4 : o4.data = .cell none := d4
  replace d5 : o5.data = .cell none := d5
  replace d6 : o6.data = .cell none := d6
  have hl' : g.IsList l vs.toArray := stays_list kg₀ hl
  k_steps
  constructor
  refine For_ov ?_
  k_steps
  constructor
  rename Fr _ _ _ _ => F
  rename News _ _ _ _ => N
  rename_i lL _ lx1 _ _ _ lF _ lx2 _ l5 _ lx3 lS _ ms _ _ hms lx4 lC ws _ hIC lx5
  obtain ⟨lvs, fvs, vS, v5, N', hLs, hF0⟩ : ∃ lvs fvs vS v5 : List Value, News g s.heap.objs.size _ [(lC, listOf ws.toArray 0), (lS, listOf vS.toArray 0), (l5, listOf v5.toArray 0), (lF, listOf fvs.toArray 0), (lL, listOf lvs.toArray 0), (s.heap.objs.size + 1 + 1 + 1 + 1 + 1 + 1, o1), (s.heap.objs.size + 1 + 1 + 1 + 1 + 1, o2), (s.heap.objs.size + 1 + 1 + 1 + 1, o3), (s.heap.objs.size + 1 + 1 + 1, o4), (s.heap.objs.size + 1 + 1, o5), (s.heap.objs.size + 1, o6)] ∧
      IntsAre lvs [((120 + ns.sum).fdiv 23).fmod 4, 4, 5, 6, 7] ∧ IntsAre fvs [0, 1, 2, 3, 4] :=
    ⟨_, _, _, _, N, by repeat constructor, by repeat constructor⟩
  clear N
  have hoF : OffC s.heap.objs.size lF := by
    obtain ⟨a0, a1, a2, a3, a4, a5, a6⟩ := lx2
    exact ⟨Nat.ne_of_gt a6, Nat.ne_of_gt a5, Nat.ne_of_gt a4, Nat.ne_of_gt a3, Nat.ne_of_gt a2, Nat.ne_of_gt a1⟩
  refine' iter_list1 (σ := Ord) rfl (PySem.IsL.isList (N' _ (.head _)).1) ?hne rfl rfl
    (fun y => [(Str.ofString "first", .ref y.D), (Str.ofString "more", .int (1 + ((120 + ns.sum).fdiv 276).fmod 4) y.t1), (Str.ofString "blanks", .int (((120 + ns.sum).fdiv 92).fmod 3) y.t2), (Str.ofString "lengths", .ref lL), (Str.ofString "base", .int ((120 + ns.sum).fmod 23) y.t3), (Str.ofString "total", .int (120 + ns.sum) y.t4), (Str.ofString "script", .ref l)])
    (fun y => [(y.D, listOf y.vs.toArray y.c), (lL, listOf lvs.toArray 0), (s.heap.objs.size + 1 + 1 + 1 + 1 + 1 + 1, o1), (s.heap.objs.size + 1 + 1 + 1 + 1 + 1, o2), (s.heap.objs.size + 1 + 1 + 1 + 1, o3), (s.heap.objs.size + 1 + 1 + 1, o4), (s.heap.objs.size + 1 + 1, o5), (s.heap.objs.size + 1, o6)])
    (fun i y => IntsAre y.vs y.p ∧ y.p ∈ perms5 ∧ OffC s.heap.objs.size y.D) (fun y => IntsAre y.vs y.p ∧ y.p ∈ perms5 ∧ OffC s.heap.objs.size y.D) ⟨lF, fvs, 0, [0, 1, 2, 3, 4], _, _, _, _⟩ F ?hm ?N ?hoff ?hP ?turn ?conv ?fin
  (case hne => exact (N' _ (.head _)).2.1)
  (case hm => walk_at "my names")
  (case N => exact cb_drop N' (by walk_at "my sub"))
  (case hoff =>
    obtain ⟨a0, a1, a2, a3, a4, a5, a6, a7, a8, a9⟩ := lx5
    intro p hp
    simp only [List.mem_cons, List.not_mem_nil, or_false] at hp
    rcases hp with rfl | rfl | rfl | rfl | rfl | rfl | rfl | rfl
    · exact Nat.ne_of_lt a2
    · exact Nat.ne_of_lt a3
    · exact Nat.ne_of_lt a4
    · exact Nat.ne_of_lt a5
    · exact Nat.ne_of_lt a6
    · exact Nat.ne_of_lt a7
    · exact Nat.ne_of_lt a8
    · exact Nat.ne_of_lt a9)
  (case hP => exact ⟨hF0, id_perm, hoF⟩)
  (case conv => exact fun y h => h)
  (case turn =>
    clear F N'
    rintro i v ⟨D, fv, c, p1, t1, t2, t3, t4⟩ u h₂ tk₂ own hv ⟨hI1, hp1, hof⟩ ho F N
    simp only [List.cons_append, List.nil_append] at N
    dsimp only [ov, List.map] at F N hI1 hp1 hof ho ⊢
    refine turnQ fun Q0 hQ0 => ?_
    obtain ⟨tx, rfl⟩ := hIC.int_at i v hv
    generalize ([5, 22] ++ ms).getD i 0 = x at *
    have hl5 := (perm_five hp1).1
    have hx1 := Int.fmod_nonneg_of_pos x (b := 5) (by omega)
    have hx2 := Int.fmod_lt_of_pos x (b := 5) (by omega)
    have hx3 := Int.fmod_nonneg_of_pos (x.fdiv 5) (b := 5) (by omega)
    have hx4 := Int.fmod_lt_of_pos (x.fdiv 5) (b := 5) (by omega)
    refine' (let mm9 : Str → Option Value := _; ?_)
    rotate_left
    change Fr _ _ _ mm9 at F
    k_steps
    rename IntsAre _ (List.set (List.set p1 _ _) _ _) => hI9
    rename (_ ∧ _ ∧ _ ∧ _ ∧ _ ∧ _ ∧ _ ∧ _ ∧ _) => e9
    rename Fr _ _ _ _ => F9
    rename News _ _ _ _ => N9
    refine hQ0 _ _ ?_; refine' StepF.next ⟨_, _, _, exch p1 (x.fmod 5) ((x.fdiv 5).fmod 5), t1, t2, t3, t4⟩ F9 ?hm ?N ?ho ?hP
    (case hm => walk_at "my names")
    (case N => exact cb_drop N9 (subO (by walk_at "my sub") (by walk_at "my own")))
    (case ho => exact ownOff_ne e9.2.2.2.2.2.2.2.2 (ownOff_tail ho))
    (case hP =>
      dsimp only
      exact ⟨hI9, exch_perm hp1 ⟨hx1, hx2⟩ ⟨hx3, hx4⟩, ⟨Ne.symm e9.2.2.2.2.2.2.2.1, Ne.symm e9.2.2.2.2.2.2.1, Ne.symm e9.2.2.2.2.2.1, Ne.symm e9.2.2.2.2.1, Ne.symm e9.2.2.2.1, Ne.symm e9.2.2.1⟩⟩))
  (case fin =>
    clear F N' hF0 hoF
    rintro ⟨D1, fv1, c1, p1, t1, t2, t3, t4⟩ u h₂ tk₂ ⟨hI1, hp1, hof1⟩ F N
    dsimp only [ov, List.map] at F N hI1 hp1 hof1 ⊢
    have hlc : s.heap.objs.size + 1 + 1 + 1 + 1 + 1 + 1 < lL ∧ s.heap.objs.size + 1 + 1 + 1 + 1 + 1 < lL ∧ s.heap.objs.size + 1 + 1 + 1 + 1 < lL ∧ s.heap.objs.size + 1 + 1 + 1 < lL ∧ s.heap.objs.size + 1 + 1 < lL ∧ s.heap.objs.size + 1 < lL := lx1
    clear lx1 lx2 lx3 lx4 lx5 hIC hms
    generalize hTot : 120 + ns.sum = tot at F hLs
    k_steps
    constructor
    refine For_ov ?_
    k_steps
    constructor
    rename Fr _ _ _ _ => F
    rename News _ _ _ _ => N
    rename_i l5 _ lx3 lS _ ms _ _ hms lx4 lC ws _ hIC lx5
    have hof : OffC s.heap.objs.size D1 := hof1
    refine' iter_list1 (σ := Ord) rfl (PySem.IsL.isList (N _ (.head _)).1) ?hneb rfl rfl
      (fun y => [(Str.ofString "second", .ref y.D), (Str.ofString "first", .ref D1), (Str.ofString "more", .int (1 + (tot.fdiv 276).fmod 4) t1), (Str.ofString "blanks", .int ((tot.fdiv 92).fmod 3) t2), (Str.ofString "lengths", .ref lL), (Str.ofString "base", .int (tot.fmod 23) t3), (Str.ofString "total", .int tot t4)])
      (fun y => [(y.D, listOf y.vs.toArray y.c), (D1, listOf fv1.toArray c1), (lL, listOf lvs.toArray 0), (s.heap.objs.size + 1 + 1 + 1 + 1 + 1 + 1, o1), (s.heap.objs.size + 1 + 1 + 1 + 1 + 1, o2), (s.heap.objs.size + 1 + 1 + 1 + 1, o3), (s.heap.objs.size + 1 + 1 + 1, o4), (s.heap.objs.size + 1 + 1, o5), (s.heap.objs.size + 1, o6)])
      (fun i y => IntsAre y.vs y.p ∧ y.p ∈ perms5 ∧ OffC s.heap.objs.size y.D) (fun y => IntsAre y.vs y.p ∧ y.p ∈ perms5 ∧ OffC s.heap.objs.size y.D) ⟨D1, fv1, c1, p1, t1, t2, t3, t4⟩ F ?hmb ?Nb ?hoffb ?hPb ?turnb ?convb ?finb
    (case hneb => exact (N _ (.head _)).2.1)
    (case hmb => walk_at "my names")
    (case Nb => exact cb_drop N (by walk_at "my sub"))
    (case hoffb =>
      obtain ⟨a0, a1, a2, a3, a4, a5, a6, a7, a8, a9⟩ := lx5
      intro p hp
      simp only [List.mem_cons, List.not_mem_nil, or_false] at hp
      rcases hp with rfl | rfl | rfl | rfl | rfl | rfl | rfl | rfl | rfl
      · exact Nat.ne_of_lt a2
      · exact Nat.ne_of_lt a2
      · exact Nat.ne_of_lt a3
      · exact Nat.ne_of_lt a4
      · exact Nat.ne_of_lt a5
      · exact Nat.ne_of_lt a6
      · exact Nat.ne_of_lt a7
      · exact Nat.ne_of_lt a8
      · exact Nat.ne_of_lt a9)
    (case hPb => exact ⟨hI1, hp1, hof1⟩)
    (case convb => exact fun y h => h)
    (case turnb =>
      clear F N lx3 lx4 lx5
      rintro i v ⟨D, fv, c, p2, t1', t2', t3', t4'⟩ u h₂ tk₂ own hv ⟨hI2, hp2, hof2⟩ ho F N
      simp only [List.cons_append, List.nil_append] at N
      dsimp only [ov, List.map] at F N hI2 hp2 hof2 ho ⊢
      refine turnQ fun Q0 hQ0 => ?_
      obtain ⟨tx, rfl⟩ := hIC.int_at i v hv
      generalize ([10, 22] ++ ms).getD i 0 = x at *
      have hl5 := (perm_five hp2).1
      have hx1 := Int.fmod_nonneg_of_pos x (b := 5) (by omega)
      have hx2 := Int.fmod_lt_of_pos x (b := 5) (by omega)
      have hx3 := Int.fmod_nonneg_of_pos (x.fdiv 5) (b := 5) (by omega)
      have hx4 := Int.fmod_lt_of_pos (x.fdiv 5) (b := 5) (by omega)
      clear hI1
      refine' (let mm10 : Str → Option Value := _; ?_)
      rotate_left
      change Fr _ _ _ mm10 at F
      k_steps
      rename IntsAre _ (List.set (List.set p2 _ _) _ _) => hI9
      rename (_ ∧ _ ∧ _ ∧ _ ∧ _ ∧ _ ∧ _ ∧ _ ∧ _ ∧ _) => e9
      rename Fr _ _ _ _ => F9
      rename News _ _ _ _ => N9
      refine hQ0 _ _ ?_; refine' StepF.next ⟨_, _, _, exch p2 (x.fmod 5) ((x.fdiv 5).fmod 5), t1, t2, t3, t4⟩ F9 ?hm ?N ?ho ?hP
      (case hm => walk_at "my names")
      (case N => exact cb_drop N9 (subO (by walk_at "my sub") (by walk_at "my own")))
      (case ho => exact ownOff_ne e9.2.2.2.2.2.2.2.2.2 (ownOff_tail ho))
      (case hP =>
        dsimp only
        exact ⟨hI9, exch_perm hp2 ⟨hx1, hx2⟩ ⟨hx3, hx4⟩, ⟨Ne.symm e9.2.2.2.2.2.2.2.2.1, Ne.symm e9.2.2.2.2.2.2.2.1, Ne.symm e9.2.2.2.2.2.2.1, Ne.symm e9.2.2.2.2.2.1, Ne.symm e9.2.2.2.2.1, Ne.symm e9.2.2.2.1⟩⟩))
    (case finb =>
      clear F N lx3 lx4 lx5 hIC hms hof
      rintro ⟨D2, fv2, c2, p2, t1', t2', t3', t4'⟩ u h₂ tk₂ ⟨hI2, hp2, hof2⟩ F N
      dsimp only [ov, List.map] at F N hI2 hp2 hof2 ⊢
      have hfm1 := Int.fmod_nonneg_of_pos tot (b := 23) (by omega)
      have hfm2 := Int.fmod_lt_of_pos tot (b := 23) (by omega)
      k_steps
      constructor
      have hb1 := Int.fmod_nonneg_of_pos (tot.fdiv 23) (b := 4) (by omega)
      have hb2 := Int.fmod_lt_of_pos (tot.fdiv 23) (b := 4) (by omega)
      have hb3 := Int.fmod_nonneg_of_pos (tot.fdiv 92) (b := 3) (by omega)
      have hb4 := Int.fmod_lt_of_pos (tot.fdiv 92) (b := 3) (by omega)
      have hb5 := Int.fmod_nonneg_of_pos (tot.fdiv 276) (b := 4) (by omega)
      have hb6 := Int.fmod_lt_of_pos (tot.fdiv 276) (b := 4) (by omega)
      have hb7 : (tot.fdiv 92).fmod 3 < 7 := by omega
      have hbm0 : 0 ≤ (tot.fdiv 92).fmod 3 + (1 + (tot.fdiv 276).fmod 4) := by omega
      have hbm7 : (tot.fdiv 92).fmod 3 + (1 + (tot.fdiv 276).fmod 4) < 7 := by omega
      refine' walk_spec (Xg.keeps F.keep) (Tg.keeps F.keep) ?r1 ?r2 (PySem.IsL.isList (News.get N (by k_mem))) hI1 (perm_five hp1) (PySem.IsL.isList (News.get N (by k_mem))) hLs (ls_ok ⟨hb1, hb2⟩) ⟨hb3, Int.le_of_lt hb7⟩ ?_
      (case r1 => exact room2 hroom rfl)
      (case r2 => exact room2 hun rfl)
      intro tT rR rL tf rv lv rc lc ex1 h3 tk3 st hRows1 hLeads1 hEx hThree
      have hoff1 := exOff N hEx
      have hoff2 := exOff N hThree
      have N1 := newsMoreL F (newsMoreL F (newsStays N st) hEx) hThree
      replace F := frStays F st
      clear N hEx hThree st
      dsimp only at F N1 hoff1 hoff2 ⊢
      obtain ⟨a11, a12, a13, a14, a15, a16⟩ := hof1
      obtain ⟨a21, a22, a23, a24, a25, a26⟩ := hof2
      obtain ⟨x11, x12, x13, x14, x15, x16⟩ := offC_of (d := tT) (L := s.heap.objs.size) (o1 := o1) (o2 := o2) (o3 := o3) (o4 := o4) (o5 := o5) (o6 := o6) (fun q hq => hoff2 (tT, _) (.head _) q hq) (by k_mem) (by k_mem) (by k_mem) (by k_mem) (by k_mem) (by k_mem)
      obtain ⟨x21, x22, x23, x24, x25, x26⟩ := offC_of (d := rR) (L := s.heap.objs.size) (o1 := o1) (o2 := o2) (o3 := o3) (o4 := o4) (o5 := o5) (o6 := o6) (fun q hq => hoff2 (rR, _) (.tail _ (.head _)) q hq) (by k_mem) (by k_mem) (by k_mem) (by k_mem) (by k_mem) (by k_mem)
      obtain ⟨x31, x32, x33, x34, x35, x36⟩ := offC_of (d := rL) (L := s.heap.objs.size) (o1 := o1) (o2 := o2) (o3 := o3) (o4 := o4) (o5 := o5) (o6 := o6) (fun q hq => hoff2 (rL, _) (.tail _ (.tail _ (.head _))) q hq) (by k_mem) (by k_mem) (by k_mem) (by k_mem) (by k_mem) (by k_mem)
      have hoE : OwnOff ex1 [s.heap.objs.size + 1 + 1 + 1 + 1 + 1 + 1, s.heap.objs.size + 1 + 1 + 1 + 1 + 1, s.heap.objs.size + 1 + 1 + 1 + 1, s.heap.objs.size + 1 + 1 + 1, s.heap.objs.size + 1 + 1, s.heap.objs.size + 1] := by
        exact fun p hp => allCons (hoff1 p hp (_, o1) (by k_mem)) (allCons (hoff1 p hp (_, o2) (by k_mem)) (allCons (hoff1 p hp (_, o3) (by k_mem)) (allCons (hoff1 p hp (_, o4) (by k_mem)) (allCons (hoff1 p hp (_, o5) (by k_mem)) (allCons (hoff1 p hp (_, o6) (by k_mem)) allNil)))))
      clear hoff1 hoff2
      have N2 : News g s.heap.objs.size h3 ((tT, tupOf #[Value.ref rR, Value.ref rL, Value.int (wFlags p1 5) tf]) :: (rR, listOf rv.toArray rc) :: (rL, listOf lv.toArray lc) :: (D2, listOf fv2.toArray c2) :: (D1, listOf fv1.toArray c1) :: (lL, listOf lvs.toArray 0) ::
          (s.heap.objs.size + 1 + 1 + 1 + 1 + 1 + 1, o1) :: (s.heap.objs.size + 1 + 1 + 1 + 1 + 1, o2) :: (s.heap.objs.size + 1 + 1 + 1 + 1, o3) :: (s.heap.objs.size + 1 + 1 + 1, o4) :: (s.heap.objs.size + 1 + 1, o5) :: (s.heap.objs.size + 1, o6) :: ex1) :=
        newsMove (C := [(D2, listOf fv2.toArray c2), (D1, listOf fv1.toArray c1), (lL, listOf lvs.toArray 0), (s.heap.objs.size + 1 + 1 + 1 + 1 + 1 + 1, o1), (s.heap.objs.size + 1 + 1 + 1 + 1 + 1, o2), (s.heap.objs.size + 1 + 1 + 1 + 1, o3), (s.heap.objs.size + 1 + 1 + 1, o4), (s.heap.objs.size + 1 + 1, o5), (s.heap.objs.size + 1, o6)]) N1 (by walk_at "my sub")
      clear N1
      k_steps
      constructor
      rename Fr _ _ _ _ => F
      rename News _ _ _ _ => N
      rename_i oR dR _ oL dL _
      refine' walk_spec (Xg.keeps F.keep) (Tg.keeps F.keep) ?r1 ?r2 (PySem.IsL.isList (News.get N (by k_mem))) hI2 (perm_five hp2) (PySem.IsL.isList (News.get N (by k_mem))) hLs (ls_ok ⟨hb1, hb2⟩) ⟨hbm0, Int.le_of_lt hbm7⟩ ?_
      (case r1 => exact room2 hroom rfl)
      (case r2 => exact room2 hun rfl)
      intro tT2 rR2 rL2 tf2 rv2 lv2 rc2 lc2 ex2 h4 tk4 st hRows2 hLeads2 hEx hThree
      have hoff1 := exOff N hEx
      have hoff2 := exOff N hThree
      have N1 := newsMoreL F (newsMoreL F (newsStays N st) hEx) hThree
      replace F := frStays F st
      clear N hEx hThree st
      dsimp only at F N1 hoff1 hoff2 ⊢
      obtain ⟨y11, y12, y13, y14, y15, y16⟩ := offC_of (d := tT2) (L := s.heap.objs.size) (o1 := o1) (o2 := o2) (o3 := o3) (o4 := o4) (o5 := oL) (o6 := oR) (fun q hq => hoff2 (tT2, _) (.head _) q hq) (by k_mem) (by k_mem) (by k_mem) (by k_mem) (by k_mem) (by k_mem)
      obtain ⟨y21, y22, y23, y24, y25, y26⟩ := offC_of (d := rR2) (L := s.heap.objs.size) (o1 := o1) (o2 := o2) (o3 := o3) (o4 := o4) (o5 := oL) (o6 := oR) (fun q hq => hoff2 (rR2, _) (.tail _ (.head _)) q hq) (by k_mem) (by k_mem) (by k_mem) (by k_mem) (by k_mem) (by k_mem)
      obtain ⟨y31, y32, y33, y34, y35, y36⟩ := offC_of (d := rL2) (L := s.heap.objs.size) (o1 := o1) (o2 := o2) (o3 := o3) (o4 := o4) (o5 := oL) (o6 := oR) (fun q hq => hoff2 (rL2, _) (.tail _ (.tail _ (.head _))) q hq) (by k_mem) (by k_mem) (by k_mem) (by k_mem) (by k_mem) (by k_mem)
      obtain ⟨own, hown, he1, he2, N2⟩ : ∃ own, OwnOff own [s.heap.objs.size + 1 + 1 + 1 + 1 + 1 + 1, s.heap.objs.size + 1 + 1 + 1 + 1 + 1, s.heap.objs.size + 1 + 1 + 1 + 1, s.heap.objs.size + 1 + 1 + 1, s.heap.objs.size + 1 + 1, s.heap.objs.size + 1] ∧ (∀ p ∈ ex1, p ∈ own) ∧ (∀ p ∈ ex2, p ∈ own) ∧
          News g s.heap.objs.size h4 ((tT2, tupOf #[Value.ref rR2, Value.ref rL2, Value.int (wFlags p2 5) tf2]) :: (rR2, listOf rv2.toArray rc2) :: (rL2, listOf lv2.toArray lc2) :: (rR, listOf rv.toArray rc) :: (rL, listOf lv.toArray lc) :: (D2, listOf fv2.toArray c2) :: (D1, listOf fv1.toArray c1) ::
          (s.heap.objs.size + 1 + 1 + 1 + 1 + 1 + 1, o1) :: (s.heap.objs.size + 1 + 1 + 1 + 1 + 1, o2) :: (s.heap.objs.size + 1 + 1 + 1 + 1, o3) :: (s.heap.objs.size + 1 + 1 + 1, o4) :: (s.heap.objs.size + 1 + 1, oL) :: (s.heap.objs.size + 1, oR) :: own) := by
        refine ⟨ex2 ++ ex1, ?_, fun p hp => List.mem_append_right _ hp, fun p hp => List.mem_append_left _ hp, newsMove2 (C := [(rR, listOf rv.toArray rc), (rL, listOf lv.toArray lc), (D2, listOf fv2.toArray c2), (D1, listOf fv1.toArray c1), (s.heap.objs.size + 1 + 1 + 1 + 1 + 1 + 1, o1), (s.heap.objs.size + 1 + 1 + 1 + 1 + 1, o2), (s.heap.objs.size + 1 + 1 + 1 + 1, o3), (s.heap.objs.size + 1 + 1 + 1, o4), (s.heap.objs.size + 1 + 1, oL), (s.heap.objs.size + 1, oR)]) N1 (subO (by walk_at "my sub") (by walk_at "my own"))⟩
        · intro p hp b hb
          rcases List.mem_append.mp hp with hp | hp
          · exact allCons (hoff1 p hp (_, o1) (by k_mem)) (allCons (hoff1 p hp (_, o2) (by k_mem)) (allCons (hoff1 p hp (_, o3) (by k_mem)) (allCons (hoff1 p hp (_, o4) (by k_mem)) (allCons (hoff1 p hp (_, oL) (by k_mem)) (allCons (hoff1 p hp (_, oR) (by k_mem)) allNil))))) b hb
          · exact hoE p hp b hb
      clear N1 hoff1 hoff2 hoE
      replace hRows1 := hRows1.mono fun a b hab => hab.more he1
      replace hRows2 := hRows2.mono fun a b hab => hab.more he2
      replace hLeads1 := hLeads1.mono fun a b hab => hab.more he1
      replace hLeads2 := hLeads2.mono fun a b hab => hab.more he2
      clear he1 he2
      have hf1 := flags_ok hp1
      have hf2 := flags_ok hp2
      obtain ⟨fl1, hfl1⟩ : ∃ f, f = wFlags p1 5 := ⟨_, rfl⟩
      obtain ⟨fl2, hfl2⟩ : ∃ f, f = wFlags p2 5 := ⟨_, rfl⟩
      rw [← hfl1] at hf1 F
      rw [← hfl2] at hf2 N2
      k_steps
      constructor
      obtain ⟨n1, hn1, hn1', hn1e⟩ := shl_nat hf1 ⟨hfm1, hfm2⟩
      obtain ⟨n2, hn2, hn2', hn2e⟩ := shl_nat hf2 ⟨hfm1, hfm2⟩
      rename Fr _ _ _ _ => F
      rename News _ _ _ _ => N
      rw [hn1]
      refine' pretty_spec (Xg.keeps F.keep) (Tg.keeps F.keep) ?r1 ?r2 hn1' ?_
      (case r1 => exact room2 hroom rfl)
      (case r2 => exact room2 hun rfl)
      intro tp h5 tk5 st
      replace F := frStays F st
      replace N := newsStays N st
      clear st
      dsimp only at F N ⊢
      k_steps
      constructor
      rename Fr _ _ _ _ => F
      rename News _ _ _ _ => N
      rw [hn2]
      refine' pretty_spec (Xg.keeps F.keep) (Tg.keeps F.keep) ?r1 ?r2 hn2' ?_
      (case r1 => exact room2 hroom rfl)
      (case r2 => exact room2 hun rfl)
      intro tp2 h6 tk6 st
      replace F := frStays F st
      replace N := newsStays N st
      clear st
      dsimp only at F N ⊢
      k_steps
      constructor
      rename Fr _ _ _ _ => F
      rename News _ _ _ _ => N
      refine' law_text_spec (Xg.keeps F.keep) (Tg.keeps F.keep) ?r1 ?r2 hf1 ⟨hfm1, by omega⟩ ?_
      (case r1 => exact room2 hroom rfl)
      (case r2 => exact room2 hun rfl)
      intro tp3 h7 tk7 st
      rw [law_pretty hf1 ⟨hfm1, hfm2⟩, ← hn1e]
      replace F := frStays F st
      replace N := newsStays N st
      clear st
      dsimp only at F N ⊢
      k_steps
      constructor
      rename Fr _ _ _ _ => F
      rename News _ _ _ _ => N
      refine' law_text_spec (Xg.keeps F.keep) (Tg.keeps F.keep) ?r1 ?r2 hf2 ⟨hfm1, by omega⟩ ?_
      (case r1 => exact room2 hroom rfl)
      (case r2 => exact room2 hun rfl)
      intro tp4 h8 tk8 st
      rw [law_pretty hf2 ⟨hfm1, hfm2⟩, ← hn2e]
      replace F := frStays F st
      replace N := newsStays N st
      clear st
      dsimp only at F N ⊢
      k_steps
      rename Fr _ _ _ _ => F
      rename News _ _ _ _ => N
      refine' ne_strs_same (xs := [prettyText n1, prettyText n2]) (PySem.IsL.isList (News.get N (.tail _ (.head _)))) (.cons _ _ (.cons _ _ .nil)) (PySem.IsL.isList (News.get N (.head _))) (.cons _ _ (.cons _ _ .nil)) ?ok1 ?un ?_
      (case ok1 => intro x hx; simp only [List.mem_cons, List.not_mem_nil, or_false] at hx; rcases hx with rfl | rfl <;> exact pretty_ok _)
      (case un => exact room2 hun rfl)
      k_steps
      constructor
      rename Fr _ _ _ _ => F
      rename News _ _ _ _ => N
      refine' ListComp_ov (sOf (amongP n2)) (fun v u => u = v) rfl ?h1 rfl ?h2 rfl ?_
      (case h1 => decide)
      (case h2 => decide)
      k_steps
      constructor
      rename Fr _ _ _ _ => F
      rename News _ _ _ _ => N
      rename StrsAre _ _ => hS
      rename Heap.IsList _ _ _ => hL
      have hlen := strsLen hS
      have hfew := (tWords_few n1).1
      refine' compE_list rfl hL ?hsz F N ?test ?elt ?fin4
      (case hsz => rw [sizeLine_eq]; omega)
      (case test =>
        clear F N
        intro j v hv C u4 s4 F N
        obtain ⟨t4, rfl, hm4⟩ := strs_at hS j v hv
        generalize (tWords n1).getD j Str.empty = x4 at *
        k_steps
        all_goals first
          | exact ⟨_, _, rfl, fun _ _ e => e⟩
          | exact ⟨_, _, rfl, by assumption⟩
          | exact among_t (by assumption) (by assumption)
          | exact among_f1 (by assumption)
          | exact among_f2 (by assumption))
      (case elt =>
        clear F N
        intro j v hv _ C u4 s4 F N
        k_steps
        all_goals first | exact ⟨_, _, rfl, fun _ _ e => e⟩ | rfl)
      (case fin4 =>
        intro D4 h5' tk5 n5 ws hP4 hD4 st hget
        have hw := paired_eq hP4
        subst hw
        obtain ⟨us, hA, hget⟩ : ∃ us, StrsAre us (amongKept n1 n2) ∧ h5'.get? D4 = some (listOf us.toArray n5) := ⟨_, strs_filter hS, hget⟩
        have e9 := newsNe hD4 N
        replace N := newsMore F (newsStays N st) hD4 hget
        replace F := frStays F st
        simp only [AllNe, and_true] at e9
        clear hP4 hD4 st hget hlen hfew hS hL
        dsimp only at F N ⊢
        k_steps
        constructor
        rename Fr _ _ _ _ => F
        rename News _ _ _ _ => N
        refine' becomes_spec Xg Tg F.keep ?hid ?r1 ?r2 hI1 hI2 (perm_five hp1).1 (perm_five hp2).1 (perm_in hp1 hp2) ?_
        (case hid =>
          intro q hq
          simp only [List.mem_cons, List.not_mem_nil, or_false] at hq
          rcases hq with rfl | rfl
          · exact ⟨(N _ (by k_mem)).1, (N _ (by k_mem)).2.2⟩
          · exact ⟨(N _ (by k_mem)).1, (N _ (by k_mem)).2.2⟩)
        (case r1 => exact room2 hroom rfl)
        (case r2 => exact room2 hun rfl)
        intro h10 tk10 st
        have hAB : decide (becRun p2 10 p1 = p2) = decide (amongKept n1 n2 = []) := by rw [hn1e, hn2e, hfl1, hfl2]; exact (among_becomes hp1 hp2 (by omega)).symm
        rw [hAB]
        replace F := frStays F st
        replace N := newsStays N st
        clear st
        dsimp only at F N ⊢
        k_steps
        · rename ((_ != _) = true) => hb
          rw [bne_self_eq_false] at hb
          cases hb
        constructor
        refine For_ov ?_
        k_steps
        constructor
        rename Fr _ _ _ _ => F
        rename News _ _ _ _ => N
        rename IsRange _ _ _ _ _ _ _ _ => hR
        rename_i oO dO _ oB dB _ _ lT1 _ _ _ oT dT _ lT2 _ _ _ _ _ _ _ _ _ _ _ _ _ _ lD _ l1D _ _ _ _ _ _ _ _ _
        refine' iter_rangeC (σ := Due) (c := s.heap.objs.size + 1 + 1 + 1 + 1 + 1 + 1) rfl hR ⟨by decide, by decide, by decide, by decide⟩ rfl rfl rfl
          (fun y => [(Str.ofString "due", .ref lD), (Str.ofString "second", .ref D2), (Str.ofString "first", .ref D1), (Str.ofString "total", .int tot t4)]) (fun y => y.o)
          (fun y => (lD, listOf (y.bs.map Value.bool).toArray y.c) :: (rR2, listOf rv2.toArray rc2) :: (rL2, listOf lv2.toArray lc2) :: (rR, listOf rv.toArray rc) :: (rL, listOf lv.toArray lc) :: (D2, listOf fv2.toArray c2) :: (D1, listOf fv1.toArray c1) ::
            (s.heap.objs.size + 1 + 1 + 1 + 1, oB) :: (s.heap.objs.size + 1 + 1 + 1, oO) :: (s.heap.objs.size + 1 + 1, oL) :: (s.heap.objs.size + 1, oR) :: own)
          (fun i y => y.bs = (List.range i).map (dueAt p1 p2) ∧ ∃ v₀, y.o.data = .cell v₀) (fun y => y.bs = (List.range 4).map (dueAt p1 p2) ∧ ∃ v₀, y.o.data = .cell v₀) ⟨o1, [], 0⟩ F ?hm ?N ?hP ?hd ?turn ?conv ?fin
        (case hm => walk_at "my names")
        (case N => exact cb_drop N (by (try dsimp only [List.map]); walk_at "my sub"; walk_at "my own"))
        (case hP => exact ⟨rfl, _, d1⟩)
        (case conv => exact fun y h => h)
        (case hd =>
          rintro i y ⟨_, hy⟩
          exact ⟨allCons (Nat.ne_of_gt l1D.2.2.2.2.2.2.2.2.2.2.2.1) (allCons y26 (allCons y36 (allCons x26 (allCons x36 (allCons a26 (allCons a16 (allCons (Nat.ne_of_lt (Nat.lt_succ_of_lt (Nat.lt_succ_self _))) (allCons (Nat.ne_of_lt (Nat.lt_succ_of_lt (Nat.lt_succ_of_lt (Nat.lt_succ_self _)))) (allCons (Nat.ne_of_lt (Nat.lt_succ_of_lt (Nat.lt_succ_of_lt (Nat.lt_succ_of_lt (Nat.lt_succ_self _))))) (allCons (Nat.ne_of_lt (Nat.lt_succ_of_lt (Nat.lt_succ_of_lt (Nat.lt_succ_of_lt (Nat.lt_succ_of_lt (Nat.lt_succ_self _)))))) fun p hp => hown p hp _ (.head _))))))))))), hy⟩)
        (case turn =>
          clear F N hR
          rintro i t ⟨ok, bs, c⟩ u h₂ tk₂ own' o'k hi hdk ⟨hbs, hcd⟩ ho F N
          dsimp only [ov, List.map] at F N hbs hcd ho ⊢
          refine turnQ fun Q0 hQ0 => ?_
          simp only [List.cons_append] at N
          obtain ⟨own2, ho2, hs1, hs2, N⟩ : ∃ own2, OwnOff own2 [lD] ∧ (∀ p ∈ own, p ∈ own2) ∧ (∀ p ∈ own', p ∈ own2) ∧ News g s.heap.objs.size h₂ ((s.heap.objs.size + 1 + 1 + 1 + 1 + 1 + 1, o'k) :: (lD, listOf (bs.map Value.bool).toArray c) :: (rR2, listOf rv2.toArray rc2) :: (rL2, listOf lv2.toArray lc2) :: (rR, listOf rv.toArray rc) :: (rL, listOf lv.toArray lc) :: (D2, listOf fv2.toArray c2) :: (D1, listOf fv1.toArray c1) ::
              (s.heap.objs.size + 1 + 1 + 1 + 1, oB) :: (s.heap.objs.size + 1 + 1 + 1, oO) :: (s.heap.objs.size + 1 + 1, oL) :: (s.heap.objs.size + 1, oR) :: own2) :=
            ⟨own ++ own', fun p hp b hb => by
              rw [List.mem_singleton.mp hb]
              rcases List.mem_append.mp hp with hp | hp
              · exact Nat.ne_of_lt (allLt_mem l1D.2.2.2.2.2.2.2.2.2.2.2.2.2.2.2.2.2 p hp)
              · exact ho p hp lD (.tail _ (.head _)), fun p hp => List.mem_append_left _ hp, fun p hp => List.mem_append_right _ hp, N⟩
          obtain ⟨vB, hvB⟩ : ∃ vB, vB = bs.map Value.bool := ⟨_, rfl⟩
          rw [← hvB] at N
          have hi4 : i < 4 := by omega
          obtain ⟨v1, hv1, a1, ra1, k1, rfl, hm1, hI5⟩ := hRows1.get i _ (rows_at p1 i hi4)
          obtain ⟨v2, hv2, a2, ra2, k2, rfl, hm2, hI6⟩ := hRows2.get i _ (rows_at p2 i hi4)
          obtain ⟨z, hz⟩ : ∃ z, z = (0 : Int) + (i : Int) := ⟨_, rfl⟩
          rw [← hz] at hdk
          obtain ⟨hz0, _, hzi⟩ := zOf (n := 4) hz hi4
          rw [← hzi] at hv1 hv2
          have hlr1 : rv.length ≤ 1000 := rowsLen hRows1
          have hlr2 : rv2.length ≤ 1000 := rowsLen hRows2
          refine' (let mm11 : Str → Option Value := _; ?_)
          rotate_left
          change Fr _ _ _ mm11 at F
          k_steps
          constructor
          rename Fr _ _ _ _ => F
          rename News _ _ _ _ => N
          refine' ListComp_ov (pOf (dueP (wKept p1 (i + 1)) (wKept p2 (i + 1)))) (fun v u => u = v) rfl ?h1 rfl ?h2 rfl ?_
          (case h1 => decide)
          (case h2 => decide)
          k_steps
          constructor
          rename Fr _ _ _ _ => F
          rename News _ _ _ _ => N
          rename IsRange _ _ _ _ _ _ _ _ => hR
          refine' compE_range rfl hR ⟨by decide, by decide, by decide, by decide⟩ (by decide) F N ?test ?elt ?fin3
          (case test =>
            clear F N hR
            intro j tj hj C u4 s4 F N
            obtain ⟨z4, hz4⟩ : ∃ z4, z4 = (1 : Int) + (j : Int) := ⟨_, rfl⟩
            rw [← hz4] at F ⊢
            k_steps
            constructor
            rename Fr _ _ _ _ => F
            rename News _ _ _ _ => N
            have hl5 := PySem.IsL.isList (News.get N (by repeat (first | exact hs1 _ hm1 | refine List.mem_cons_of_mem _ ?_) : (a1, listOf ra1.toArray k1) ∈ _))
            refine' bisect_left_spec (Xg.keeps F.keep) (Tg.keeps F.keep) ?r1 (.inl ⟨rfl, rfl⟩) hl5 hI5 (by rw [wKept_len]; omega) (wKept_srt _ _) ?_
            (case r1 => exact room2 hroom rfl)
            intro q1 tq1 h20 tk20 st1 hLf1
            replace F := frStays F st1
            replace N := newsStays N st1
            clear hl5
            (try dsimp only at F N ⊢)
            k_steps
            constructor
            rename Fr _ _ _ _ => F
            rename News _ _ _ _ => N
            have hl5 := PySem.IsL.isList (News.get N (by repeat (first | exact hs1 _ hm2 | refine List.mem_cons_of_mem _ ?_) : (a2, listOf ra2.toArray k2) ∈ _))
            refine' bisect_left_spec (Xg.keeps F.keep) (Tg.keeps F.keep) ?r1 (.inl ⟨rfl, rfl⟩) hl5 hI6 (by rw [wKept_len]; omega) (wKept_srt _ _) ?_
            (case r1 => exact room2 hroom rfl)
            intro q2 tq2 h21 tk21 st2 hLf2
            replace F := frStays F st2
            replace N := newsStays N st2
            clear hl5
            have hq1 := hLf1.count
            have hq2 := hLf2.count
            (try dsimp only at F N ⊢)
            k_steps
            · show decide (q1 < q2) = decide (_ < _)
              rw [hq1, hq2]
              exact decide_eq_decide.mpr Int.ofNat_lt
            · exact ⟨_, _, rfl, fun b o e => st2 b o (st1 b o e)⟩)
          (case elt =>
            clear F N hR
            intro j tj hj _ C u4 s4 F N
            k_steps
            all_goals first | exact ⟨_, _, rfl, fun _ _ e => e⟩ | rfl)
          (case fin3 =>
            intro R h₃ tk₃ nR ws us hU hPr hne st hget
            have hw := paired_eq hPr
            subst hw
            have hB := ints_filter (f := dueP (wKept p1 (i + 1)) (wKept p2 (i + 1))) hU
            obtain ⟨fs, hfs⟩ : ∃ fs, fs = (rangeZ 1 ((5 : Int) - 1).toNat).filter (dueP (wKept p1 (i + 1)) (wKept p2 (i + 1))) := ⟨_, rfl⟩
            rw [← hfs] at hB
            obtain ⟨us', hB, hget⟩ : ∃ us', IntsAre us' fs ∧ h₃.get? R = some (listOf us'.toArray nR) := ⟨_, hB, hget⟩
            have e9 := newsNe hne N
            replace N := newsMore F (newsStays N st) hne hget
            replace F := frStays F st
            simp only [AllNe, and_true] at e9
            clear hPr hne st hU hR
            (try dsimp only at F N ⊢)
            k_steps
            constructor
            rename Fr _ _ _ _ => F
            rename News _ _ _ _ => N
            replace N : News _ _ _ ((lD, listOf vB.toArray c) :: (s.heap.objs.size + 1 + 1 + 1 + 1 + 1 + 1, o'k) :: (rR2, listOf rv2.toArray rc2) :: (rL2, listOf lv2.toArray lc2) :: (rR, listOf rv.toArray rc) :: (rL, listOf lv.toArray lc) :: (D2, listOf fv2.toArray c2) :: (D1, listOf fv1.toArray c1) :: (s.heap.objs.size + 1 + 1 + 1 + 1, oB) :: (s.heap.objs.size + 1 + 1 + 1, oO) :: (s.heap.objs.size + 1 + 1, oL) :: (s.heap.objs.size + 1, oR) :: own2) := cb_drop N (by walk_at "my sub"; walk_at "my own")
            have hvl : vB.toArray.size ≤ sizeLine := by
              have e : vB.toArray.size = i := by rw [hvB, hbs]; simp
              rw [e, sizeLine_eq]; omega
            refine' append_K F N (.head ?ne) ?_ hvl
            (case ne =>
              obtain ⟨_, _, _, _, _, m1, m2, m3, m4, m5, m6, m7, _, m8, m9, m10, m11, _⟩ := l1D
              exact allCons (Nat.ne_of_lt m7) (allCons (Nat.ne_of_lt m1) (allCons (Nat.ne_of_lt m2) (allCons (Nat.ne_of_lt m3) (allCons (Nat.ne_of_lt m4) (allCons (Nat.ne_of_lt m5) (allCons (Nat.ne_of_lt m6) (allCons (Nat.ne_of_lt m8) (allCons (Nat.ne_of_lt m9) (allCons (Nat.ne_of_lt m10) (allCons (Nat.ne_of_lt m11) fun p hp => ho2 p hp _ (.head _))))))))))))
            intro h' F N
            have e : vB.toArray.push (Value.bool (decide (fs = []))) = (List.map Value.bool (bs ++ [decide (fs = [])])).toArray := by rw [hvB]; simp
            rw [e] at N
            refine wpAny_execs_nil ?_
            refine hQ0 _ _ ?_; refine' StepF.next ⟨o'k, bs ++ [decide (fs = [])], c + 1⟩ F ?hm ?N ho ?hP
            (case hm => walk_at "my names")
            (case N =>
              exact cb_drop N (subO (by (try dsimp only); walk_at "my sub"; (intro p hp; repeat (first | exact hs1 p hp | refine List.mem_cons_of_mem _ ?_))) (by intro p hp; repeat (first | exact hs2 p hp | refine List.mem_cons_of_mem _ ?_))))
            (case hP =>
              dsimp only
              refine ⟨?_, _, hdk⟩
              rw [List.range_succ, List.map_append, ← hbs, hfs]
              rfl)))
        (case fin =>
          clear F N hR
          rintro ⟨ok, bs, c⟩ u h₂ tk₂ ⟨hbs, hcd⟩ F N
          dsimp only [ov, List.map] at F N hbs hcd ⊢
          obtain ⟨v0, hcd⟩ := hcd
          obtain ⟨vB, hvB⟩ : ∃ vB, vB = bs.map Value.bool := ⟨_, rfl⟩
          rw [← hvB] at N
          have hlv1 : lv.length ≤ 1000 := rowsLen hLeads1
          have hlv2 : lv2.length ≤ 1000 := rowsLen hLeads2
          k_steps
          constructor
          rename Fr _ _ _ _ => F
          rename News _ _ _ _ => N
          refine' AssignComp_ov (fun _ => true) (fun v u => u = dueU (dueAt p1 p2) v) rfl rfl ?h1 rfl ?h2 rfl rfl rfl ?_
          (case h1 => decide)
          (case h2 => decide)
          k_steps
          constructor
          rename Fr _ _ _ _ => F
          rename News _ _ _ _ => N
          rename IsRange _ _ _ _ _ _ _ _ => hR
          refine' compA_range rfl hR ⟨by decide, by decide, by decide, by decide⟩ (by decide) F N ?test ?elt ?fin2
          (case test => exact fun _ _ _ => rfl)
          (case elt =>
            clear F N hR
            intro j tj hj _ C u4 s4 F N
            have hj4 : j < 4 := by omega
            obtain ⟨v1, hv1, hL1⟩ := hLeads1.get j _ (rows_at p1 j hj4)
            obtain ⟨x1, dx1, q1, rfl, m11, m12, _⟩ := id hL1
            obtain ⟨v2, hv2, hL2⟩ := hLeads2.get j _ (rows_at p2 j hj4)
            obtain ⟨x2, _, _, rfl, _⟩ := id hL2
            obtain ⟨z, hz⟩ : ∃ z, z = (0 : Int) + (j : Int) := ⟨_, rfl⟩
            rw [← hz] at F ⊢
            obtain ⟨hz0, _, hzi⟩ := zOf (n := 4) hz hj4
            rw [← hzi] at hv1 hv2
            have I9 := instNews N (by repeat (first | exact m11 | refine List.mem_cons_of_mem _ ?_)) (by repeat (first | exact m12 | refine List.mem_cons_of_mem _ ?_))
            k_steps
            constructor
            rename Fr _ _ _ _ => F
            rename News _ _ _ _ => N
            obtain ⟨_, ex1, W1⟩ := hL1.wsIn (fun p hp => News.get N (by repeat (first | exact hp | refine List.mem_cons_of_mem _ ?_)))
            injection ex1 with ex1
            subst ex1
            obtain ⟨_, ex2, W2⟩ := hL2.wsIn (fun p hp => News.get N (by repeat (first | exact hp | refine List.mem_cons_of_mem _ ?_)))
            injection ex2 with ex2
            subst ex2
            have hk1 := lead_ok hp1 ⟨hb1, hb2⟩ ⟨hb3, hb7⟩ hj4
            have hk2 := lead_ok hp2 ⟨hb1, hb2⟩ (b := (tot.fdiv 92).fmod 3 + (1 + (tot.fdiv 276).fmod 4)) ⟨hbm0, hbm7⟩ hj4
            refine' less_spec (Xg.keeps F.keep) (Tg.keeps F.keep) ?r1 W1 hk1.1 hk1.2 W2 hk2.1 hk2.2 ?_
            (case r1 => exact room2 hroom rfl)
            intro r h20 tk20 st hW
            have hr := lead_less hp1 hp2 ⟨hb1, hb2⟩ ⟨hb3, hb4⟩ ⟨hb5, hb6⟩ hj4 hW
            subst hr
            refine ⟨?_, ?_⟩
            · show Value.bool _ = Value.bool (dueAt p1 p2 z.toNat)
              rw [hzi]
            · exact ⟨_, _, rfl, st⟩)
          (case fin2 =>
            clear F N hR
            intro R h₃ tk₃ nR ws us hU hPr hne F N
            rw [filter_true] at hPr
            have hws := paired_map hPr
            rw [due_list hU] at hws
            replace hws : ws = (List.map (dueAt p1 p2) (List.range 4)).map Value.bool := hws
            rw [← hbs] at hws
            simp only [AllNe] at hne
            clear hPr hU
            k_steps
            constructor
            rename Fr _ _ _ _ => F
            rename News _ _ _ _ => N
            refine' ListComp_ov (fun _ => true) (fun v u => u = v) rfl ?h3 rfl ?h4 rfl ?_
            (case h3 => decide)
            (case h4 => decide)
            k_steps
            constructor
            rename Fr _ _ _ _ => F
            rename News _ _ _ _ => N
            have hlw : ws.length ≤ 1000 := by rw [hws, hbs]; simp
            refine' compE_list rfl (PySem.IsL.isList (News.get N (by k_mem))) ?hsz F N ?test ?elt ?fin3
            (case hsz => rw [sizeLine_eq]; omega)
            (case test => exact fun _ _ _ => rfl)
            (case elt =>
              clear F N
              intro j v hv _ C u4 s4 F N
              rw [hws] at hv
              obtain ⟨b, rfl⟩ := bool_at hv
              k_steps
              all_goals first
                | exact keeps_refl _
                | (show Value.bool _ = Value.bool _; first | rfl | (cases b <;> rfl)))
            (case fin3 =>
              intro D4 h5' tk5 n5 ws2 hP4 hD4 st hget
              rw [filter_true] at hP4
              rw [paired_eq hP4] at hget
              clear hP4
              have e9 := newsNe hD4 N
              replace N := newsMore F (newsStays N st) hD4 hget
              replace F := frStays F st
              simp only [AllNe] at e9
              clear hD4 st hget
              (try dsimp only at F N ⊢)
              k_steps
              constructor
              rename Fr _ _ _ _ => F
              rename News _ _ _ _ => N
              refine' ListComp_ov (fun _ => true) (fun v u => u = v) rfl ?h5 rfl ?h6 rfl ?_
              (case h5 => decide)
              (case h6 => decide)
              k_steps
              constructor
              rename Fr _ _ _ _ => F
              rename News _ _ _ _ => N
              refine' compE_list rfl (PySem.IsL.isList (News.get N (by k_mem))) ?hsz F N ?test ?elt ?fin4
              (case hsz => rw [sizeLine_eq]; omega)
              (case test => exact fun _ _ _ => rfl)
              (case elt =>
                clear F N
                intro j v hv _ C u4 s4 F N
                rw [hws] at hv
                obtain ⟨b, rfl⟩ := bool_at hv
                k_steps
                all_goals first
                  | exact keeps_refl _
                  | (show Value.bool _ = Value.bool _; first | rfl | (cases b <;> rfl)))
              (case fin4 =>
                intro D4 h5' tk5 n5 ws2 hP4 hD4 st hget
                rw [filter_true] at hP4
                rw [paired_eq hP4] at hget
                clear hP4
                have e9 := newsNe hD4 N
                replace N := newsMore F (newsStays N st) hD4 hget
                replace F := frStays F st
                simp only [AllNe] at e9
                clear hD4 st hget
                (try dsimp only at F N ⊢)
                k_steps
                constructor
                rename Fr _ _ _ _ => F
                rename News _ _ _ _ => N
                refine' AssignComp_ov (fun _ => true) (fun v u => u = dueU (fun _ => false) v) rfl rfl ?h7 rfl ?h8 rfl rfl rfl ?_
                (case h7 => decide)
                (case h8 => decide)
                k_steps
                constructor
                rename Fr _ _ _ _ => F
                rename News _ _ _ _ => N
                rename IsRange _ _ _ _ _ _ _ _ => hR
                refine' compA_range rfl hR ⟨by decide, by decide, by decide, by decide⟩ (by decide) F N ?test ?elt ?fin5
                (case test => exact fun _ _ _ => rfl)
                (case elt =>
                  clear F N hR
                  intro j tj hj _ C u4 s4 F N
                  have hj4 : j < 4 := by omega
                  obtain ⟨v1, hv1, hL1⟩ := hLeads1.get j _ (rows_at p1 j hj4)
                  obtain ⟨x1, _, _, rfl, _⟩ := id hL1
                  obtain ⟨v2, hv2, hL2⟩ := hLeads2.get j _ (rows_at p2 j hj4)
                  obtain ⟨x2, dx2, q2, rfl, m21, m22, _⟩ := id hL2
                  obtain ⟨z, hz⟩ : ∃ z, z = (0 : Int) + (j : Int) := ⟨_, rfl⟩
                  rw [← hz] at F ⊢
                  obtain ⟨hz0, _, hzi⟩ := zOf (n := 4) hz hj4
                  rw [← hzi] at hv1 hv2
                  have I9 := instNews N (by repeat (first | exact m21 | refine List.mem_cons_of_mem _ ?_)) (by repeat (first | exact m22 | refine List.mem_cons_of_mem _ ?_))
                  k_steps
                  constructor
                  rename Fr _ _ _ _ => F
                  rename News _ _ _ _ => N
                  obtain ⟨_, ex1, W1⟩ := hL1.wsIn (fun p hp => News.get N (by repeat (first | exact hp | refine List.mem_cons_of_mem _ ?_)))
                  injection ex1 with ex1
                  subst ex1
                  obtain ⟨_, ex2, W2⟩ := hL2.wsIn (fun p hp => News.get N (by repeat (first | exact hp | refine List.mem_cons_of_mem _ ?_)))
                  injection ex2 with ex2
                  subst ex2
                  have hk1 := lead_ok hp1 ⟨hb1, hb2⟩ ⟨hb3, hb7⟩ hj4
                  have hk2 := lead_ok hp2 ⟨hb1, hb2⟩ (b := (tot.fdiv 92).fmod 3 + (1 + (tot.fdiv 276).fmod 4)) ⟨hbm0, hbm7⟩ hj4
                  refine' less_spec (Xg.keeps F.keep) (Tg.keeps F.keep) ?r1 W2 hk2.1 hk2.2 W1 hk1.1 hk1.2 ?_
                  (case r1 => exact room2 hroom rfl)
                  intro r h20 tk20 st hW
                  have hr := lead_turn hp1 hp2 ⟨hb1, hb2⟩ ⟨hb3, hb4⟩ ⟨hb5, hb6⟩ hj4 hW
                  subst hr
                  exact ⟨rfl, _, _, rfl, st⟩)
                (case fin5 =>
                  clear F N hR
                  intro R5 h₃ tk₃ nR5 wt us hU hPr hne F N
                  rw [filter_true] at hPr
                  have hwt := paired_map hPr
                  rw [due_list hU] at hwt
                  replace hwt : wt = ((List.range 4).map fun _ => false).map Value.bool := hwt
                  simp only [AllNe] at hne
                  clear hPr hU
                  k_steps
                  constructor
                  rename Fr _ _ _ _ => F
                  rename News _ _ _ _ => N
                  refine' ListComp_ov (fun _ => true) (fun _ u => u = Value.bool true) rfl ?h9 rfl ?h10 rfl ?_
                  (case h9 => decide)
                  (case h10 => decide)
                  k_steps
                  constructor
                  rename Fr _ _ _ _ => F
                  rename News _ _ _ _ => N
                  have hlz : wt.length ≤ 1000 := by rw [hwt]; simp
                  refine' compE_list rfl (PySem.IsL.isList (News.get N (by k_mem))) ?hsz F N ?test ?elt ?fin6
                  (case hsz => rw [sizeLine_eq]; omega)
                  (case test => exact fun _ _ _ => rfl)
                  (case elt =>
                    clear F N
                    intro j v hv _ C u4 s4 F N
                    rw [hwt] at hv
                    obtain rfl := false_at hv
                    k_steps
                    all_goals first
                      | exact keeps_refl _
                      | (show Value.bool _ = Value.bool _; first | rfl | (cases b <;> rfl)))
                  (case fin6 =>
                    intro D4 h5' tk5 n5 ws2 hP4 hD4 st hget
                    rw [filter_true] at hP4
                    have hw3 : ws2 = [true, true, true, true].map Value.bool := by rw [paired_const hP4, hwt]; rfl
                    clear hP4
                    have e9 := newsNe hD4 N
                    replace N := newsMore F (newsStays N st) hD4 hget
                    replace F := frStays F st
                    simp only [AllNe] at e9
                    clear hD4 st hget
                    (try dsimp only at F N ⊢)
                    k_steps
                    constructor
                    rename Fr _ _ _ _ => F
                    rename News _ _ _ _ => N
                    refine' beside_spec Xg Tg F.keep ?hid ?r1 ?r2 hI1 hI2 (perm_five hp1).1 (perm_five hp2).1 ?_
                    (case hid =>
                      intro q hq
                      simp only [List.mem_cons, List.not_mem_nil, or_false] at hq
                      rcases hq with rfl | rfl
                      · exact ⟨(N _ (by k_mem)).1, (N _ (by k_mem)).2.2⟩
                      · exact ⟨(N _ (by k_mem)).1, (N _ (by k_mem)).2.2⟩)
                    (case r1 => exact room2 hroom rfl)
                    (case r2 => exact room2 hun rfl)
                    intro h30 tk30 st
                    have hAll := all_beside hp1 hp2 (tot.fdiv 1104)
                    rw [← hbs] at hAll
                    rw [← hAll]
                    replace F := frStays F st
                    replace N := newsStays N st
                    clear st
                    (try dsimp only at F N ⊢)
                    k_steps
                    rw [beq_self_eq_true]
                    exact h _ _ fun b o e => F.keep b o (kg₀ b o e))))))))))
end

end Mine
end

open PySem PySem.W PyProof.Rows PySem.Calls PyProof.V
set_option maxRecDepth 100000
open Mine
set_option maxHeartbeats 8000000 in
theorem PySem.Challenge.cw_sn0043_01_holds : PySem.Challenge.rw_sn0043_01.Holds := by
  refine hd fun said => ?_
  refine holds_open (Xt := lawSeen) (XP := XL lawView []) (YP := lawHook.says) left lawHook.of lawHook.keeps (fun s e => xl_of s (Bool.and_eq_true_iff.mp e).1) XL.keeps (by rfl) (by rfl) (by rfl) (fun s e => recFacts_of (Bool.and_eq_true_iff.mp e).2) (by rfl) said (by decide +kernel) ⟨rfl, rfl, rfl, rfl, rfl, by decide +kernel⟩ ?hw ?hc
  case hw => w_witness2
  case hc => w_strict (
    k_fill
    intro w s₀ s₁ mg mb G Y fa o pm cd doc dV kV ho hd hcd hD hmg hg args vals as hpre hlay hrd hwl hlo
    have KX := kIn_of Y
    refine Ground.open G ?_
    intro T B D TE TW
    wrow_args hpre hlay hrd hwl hlo
    rename IntsAre _ _ => hI
    rename Heap.IsList _ _ _ => hL
    rename (¬ _ < _) => hc
    have e1 := mg_of (n := Str.ofString "law") (v := .ref 156) KX T.g (by kernel_rfl)
    have e2 : some (Value.ref fa) = some (Value.ref 156) := hmg.symm.trans e1
    injection e2 with e2
    injection e2 with e2
    subst e2
    refine law_spec (dp := callerA.depth) (un := callerA.units) (fr := callerA.frames) (gd := callerA.guards) KX (topRead_of T) ?_ ?_ hL hI ?_ ?_
    · decide
    · decide
    · omega
    · intro h' tk st
      refine GoodW.toG ?_
      refine ⟨.inl ⟨.bool true, .bool true, [], rfl, fun _ => ?_, .bool true, ?_, fun _ => ⟨.nil, fun _ h => nomatch h⟩⟩, st, rfl, hg⟩
      · rfl
      · with_unfolding_all rfl)
