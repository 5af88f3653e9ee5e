import PyProof.Rows.All
import Wide.All
import OpenK.AllK
import Wide.FinOn
import Open.Tops
import PySem.Challenge.RW_rl0060_01
open PySem PySem.W PyProof.Rows
set_option Elab.async false
set_option maxRecDepth 100000
set_option maxHeartbeats 40000000
set_option compiler.extract_closed false
set_option linter.unusedVariables false
namespace Mine
def pSt (i : Nat) : Stmt := (PySem.Challenge.rw_rl0060_01.prog.main.body).getD i (.Pass ⟨0, 0, 0, 0⟩)
def pBody : List Stmt := [pSt 0, pSt 1, pSt 2, pSt 3, pSt 4, pSt 5, pSt 6, pSt 7, pSt 8, pSt 9, pSt 10, pSt 11, pSt 12, pSt 13, pSt 14, pSt 15, pSt 16, pSt 17, pSt 18, pSt 19, pSt 20, pSt 21, pSt 22, pSt 23, pSt 24, pSt 25, pSt 26, pSt 27, pSt 28, pSt 29, pSt 30, pSt 31, pSt 32, pSt 33, pSt 34, pSt 35, pSt 36, pSt 37, pSt 38, pSt 39, pSt 40, pSt 41, pSt 42, pSt 43, pSt 44, pSt 45, pSt 46, pSt 47, pSt 48, pSt 49, pSt 50, pSt 51, pSt 52, pSt 53, pSt 54, pSt 55, pSt 56, pSt 57, pSt 58, pSt 59, pSt 60, pSt 61, pSt 62, pSt 63]
def pProg : Program := { PySem.Challenge.rw_rl0060_01.prog with main := { PySem.Challenge.rw_rl0060_01.prog.main with body := pBody } }
def pLaw : OpenLaw := { PySem.Challenge.rw_rl0060_01 with prog := pProg }
theorem law_eq : pLaw = PySem.Challenge.rw_rl0060_01 := by rfl
noncomputable def pView : Program := { pLaw.row.toRowW.prog with main := { pLaw.row.toRowW.prog.main with body := [pSt 1, pSt 2, pSt 4, pSt 5, pSt 6, pSt 7, pSt 8, pSt 9, pSt 10, pSt 11, pSt 12, pSt 13, pSt 14, pSt 15, pSt 16, pSt 17, pSt 18, pSt 19, pSt 20, pSt 21, pSt 22, pSt 23, pSt 24, pSt 25, pSt 26, pSt 27, pSt 28, pSt 29, pSt 30, pSt 31, pSt 32, pSt 33, pSt 34, pSt 35, pSt 36, pSt 37, pSt 38, pSt 39, pSt 40, pSt 41, pSt 42, pSt 43, pSt 44, pSt 45, pSt 46, pSt 47, pSt 48, pSt 49, pSt 50, pSt 51, pSt 52, pSt 53, pSt 54, pSt 56, pSt 57, pSt 58, pSt 59, pSt 60, pSt 61, pSt 62, pSt 63] } }
open_shared sh for pProg leaving 0
noncomputable def pHeap (P : Params) : Frag := (nat_lit 2, boot_o_2 P) :: (nat_lit 3, sh.o_70 P) :: (nat_lit 6, boot_o_6 P) :: (nat_lit 22, sh.o_14 P) :: (nat_lit 24, sh.o_16 P) :: (nat_lit 25, sh.o_17 P) :: (nat_lit 27, sh.o_19 P) :: (nat_lit 28, sh.o_20 P) :: (nat_lit 29, sh.o_21 P) :: (nat_lit 31, sh.o_23 P) :: (nat_lit 32, sh.o_24 P) :: (nat_lit 34, sh.o_26 P) :: (nat_lit 35, sh.o_27 P) :: (nat_lit 36, sh.o_28 P) :: (nat_lit 38, sh.o_30 P) :: (nat_lit 39, sh.o_31 P) :: (nat_lit 41, sh.o_33 P) :: (nat_lit 42, sh.o_34 P) :: (nat_lit 43, sh.o_35 P) :: (nat_lit 45, sh.o_37 P) :: (nat_lit 46, sh.o_38 P) :: (nat_lit 48, sh.o_40 P) :: (nat_lit 49, sh.o_41 P) :: (nat_lit 50, sh.o_42 P) :: (nat_lit 51, sh.o_43 P) :: (nat_lit 52, sh.o_44 P) :: (nat_lit 53, sh.o_45 P) :: (nat_lit 54, sh.o_46 P) :: (nat_lit 57, sh.o_49 P) :: (nat_lit 59, sh.o_51 P) :: (nat_lit 60, sh.o_52 P) :: (nat_lit 62, sh.o_54 P) :: (nat_lit 63, sh.o_55 P) :: (nat_lit 64, sh.o_64 P) :: (nat_lit 67, sh.o_72 P) :: (nat_lit 69, sh.o_74 P) :: (nat_lit 70, sh.o_75 P) :: (nat_lit 72, sh.o_77 P) :: (nat_lit 73, sh.o_78 P) :: (nat_lit 74, sh.o_79 P) :: (nat_lit 76, sh.o_81 P) :: (nat_lit 77, sh.o_82 P) :: (nat_lit 79, sh.o_84 P) :: (nat_lit 80, sh.o_85 P) :: (nat_lit 81, sh.o_86 P) :: (nat_lit 83, sh.o_88 P) :: (nat_lit 84, sh.o_89 P) :: (nat_lit 86, sh.o_91 P) :: (nat_lit 87, sh.o_92 P) :: (nat_lit 88, sh.o_93 P) :: (nat_lit 90, sh.o_95 P) :: (nat_lit 91, sh.o_96 P) :: (nat_lit 93, sh.o_98 P) :: (nat_lit 94, sh.o_99 P) :: (nat_lit 95, sh.o_100 P) :: (nat_lit 97, sh.o_102 P) :: (nat_lit 98, sh.o_103 P) :: (nat_lit 100, sh.o_105 P) :: (nat_lit 101, sh.o_106 P) :: (nat_lit 102, sh.o_107 P) :: (nat_lit 105, sh.o_110 P) :: (nat_lit 106, sh.o_111 P) :: (nat_lit 107, sh.o_112 P) :: (nat_lit 110, sh.o_115 P) :: (nat_lit 111, sh.o_116 P) :: (nat_lit 112, sh.o_117 P) :: (nat_lit 114, sh.o_119 P) :: (nat_lit 115, sh.o_120 P) :: (nat_lit 117, sh.o_122 P) :: (nat_lit 118, sh.o_123 P) :: (nat_lit 119, sh.o_124 P) :: (nat_lit 122, sh.o_127 P) :: (nat_lit 123, sh.o_128 P) :: []
noncomputable def pAdds : List Addr := [nat_lit 2, nat_lit 3, nat_lit 6, nat_lit 22, nat_lit 24, nat_lit 25, nat_lit 27, nat_lit 28, nat_lit 29, nat_lit 31, nat_lit 32, nat_lit 34, nat_lit 35, nat_lit 36, nat_lit 38, nat_lit 39, nat_lit 41, nat_lit 42, nat_lit 43, nat_lit 45, nat_lit 46, nat_lit 48, nat_lit 49, nat_lit 50, nat_lit 51, nat_lit 52, nat_lit 53, nat_lit 54, nat_lit 57, nat_lit 59, nat_lit 60, nat_lit 62, nat_lit 63, nat_lit 64, nat_lit 67, nat_lit 69, nat_lit 70, nat_lit 72, nat_lit 73, nat_lit 74, nat_lit 76, nat_lit 77, nat_lit 79, nat_lit 80, nat_lit 81, nat_lit 83, nat_lit 84, nat_lit 86, nat_lit 87, nat_lit 88, nat_lit 90, nat_lit 91, nat_lit 93, nat_lit 94, nat_lit 95, nat_lit 97, nat_lit 98, nat_lit 100, nat_lit 101, nat_lit 102, nat_lit 105, nat_lit 106, nat_lit 107, nat_lit 110, nat_lit 111, nat_lit 112, nat_lit 114, nat_lit 115, nat_lit 117, nat_lit 118, nat_lit 119, nat_lit 122, nat_lit 123]
theorem pAdds_eq (P : Params) : pAdds = (pHeap P).map (·.1) := by rfl
noncomputable abbrev PWalks : Prop := ∀ d kwd, defOf pView pLaw.name = some (d, kwd) → WalkO pView [Str.ofString "EXACT_TOKEN_TYPES"] (XL pView []) (kHook pHeap pAdds pAdds_eq).says pLaw.row.toRowW d kwd (fun f vs => PySem.call f vs)
section
-- RBase
noncomputable abbrev KK (w : World) : Frag := pHeap w.params
noncomputable abbrev LL : List Str := looseW pView [Str.ofString "EXACT_TOKEN_TYPES"]
noncomputable abbrev MM (w : World) : Model := model pLaw.row.prog w

structure Cx (w : World) (mean : ExcName → Option Value) (mg mb : Str → Option Value) (k : Nat) (A : Around) (base : Heap) (outer : List Env) (h : Heap) : Prop where
  X : (pHeap w.params).In h
  T : Top pView LL mean mg mb h
  B : Below A base outer h
  hh : A.handled = none
  dep : A.depth + k ≤ 900
  uni : A.units + 10 * k ≤ 9000

section
variable {w : World} {mean : ExcName → Option Value} {mg mb : Str → Option Value} {k : Nat} {A : Around} {base : Heap} {outer : List Env} {s : Shared} {h : Heap}

theorem Cx.keeps {h' : Heap} (C : Cx w mean mg mb k A base outer h) (st : h.StaysIn h') : Cx w mean mg mb k A base outer h' :=
  ⟨C.X.keeps st, C.T.keeps st, ⟨C.B.stack, fun b o e => st _ _ (C.B.stays b o e), C.B.frames.of_keeps fun b o e _ => ⟨o, st _ _ e, rfl⟩⟩, C.hh, C.dep, C.uni⟩

theorem Cx.deeper {L : Addr} {m : Str → Option Value} {env : Env} (C : Cx w mean mg mb (k + 1) A base outer h) {h' : Heap} (F : Fr h L h' m) (hf : env.frame = some L) (hk : env.scope.kind = .function) :
    Cx w mean mg mb k (A.deeper env) base (env :: outer) h' := by
  refine ⟨C.X.keeps F.keep, C.T.keeps F.keep, pushX C.B F hf hk, C.hh, ?_, ?_⟩
  · have := C.dep; show A.depth + 1 + k ≤ 900; omega
  · have := C.uni; show A.units + 3 + 10 * k ≤ 9000; omega

/-- enter a def without cells -/
theorem enter {R : Result → Shared → Prop} {name qual : Str} {params : Arguments} {body : List Stmt} {scope : Scope} {dV kV doc pm cdv ct oc : Value} {an od : Option Addr} {osl : Array (Option Value)} {f : Addr} {args : Args} {binds : List (Str × Value)}
    (C : Cx w mean mg mb (k + 1) A base outer s.heap)
    (ho : (pHeap w.params).lookup f = some ⟨oc, od, .func (fnOf name qual params body scope dV kV doc pm an cdv ct), osl⟩) (hcd : codeIn (pHeap w.params) cdv qual = true)
    (hbind : BindsTo s (fnOf name qual params body scope dV kV doc pm an cdv ct) args binds) (hloc : ∀ y ∈ binds, scope.names.lookup y.1 = some .local)
    (hco : scope.isCoroutine = false) (hgen : scope.isGenerator = false) (hk : scope.kind = .function) (hcell : ∀ x ∈ scope.names, x.2 ≠ .cell)
    (h : ∀ L h₁ tk, Fr s.heap L h₁ (fun y => binds.reverse.lookup y) → News s.heap L h₁ [] → Cx w mean mg mb k (A.deeper (envOf qual scope L f cdv)) base (envOf qual scope L f cdv :: outer) h₁ →
      wpAny (MM w) (A.deeper (envOf qual scope L f cdv)) (execs body (envOf qual scope L f cdv))
        (fun fl s' => R (.ok (.ret (match fl with | .ret v => v | _ => .none))) s') (fun _ _ => False) { s with heap := h₁, toks := tk }) :
    codeAny (MM w) A (.call (.ref f) args) R s := by
  refine codeAny_call_def (fd := fnOf name qual params body scope dV kV doc pm an cdv ct) (body := body) (binds := binds) (by have := C.dep; show A.depth < 1000; omega) (C.X _ _ ho) rfl C.T.nolimit (codeRec_of C.X hcd) rfl hbind hcell hloc (fun h₁ hns hk₁ => ?_) hco hgen hk
  have F : Fr s.heap s.heap.objs.size h₁ (fun y => binds.reverse.lookup y) := ⟨hns, hk₁, Nat.le_refl _⟩
  exact wpAny_mono (h s.heap.objs.size h₁ _ F News.nil (C.deeper F rfl hk)) (fun _ _ x => x) fun _ _ x => x.elim
end
-- RLogic
/-- an object that is no iterator -/
noncomputable def soft (o : Obj) : Bool := match o.data with | .fields _ => false | _ => true
noncomputable def isNsDict (o : Obj) : Bool := match o.data with | .dict _ _ => true | _ => false
/-- what stands (iterators and the frame's own names set apart) stays -/
noncomputable def Soft (L : Addr) (h h' : Heap) : Prop := ∀ b o, h.get? b = some o → soft o = true → (isNsDict o = true → b ≠ L) → h'.get? b = some o
noncomputable def Off (X : List Addr) (h h' : Heap) : Prop := ∀ b o, b ∉ X → h.get? b = some o → h'.get? b = some o
theorem Off.refl {X : List Addr} {h : Heap} : Off X h h := fun _ _ _ e => e
theorem Off.trans {X : List Addr} {h h' h'' : Heap} (a : Off X h h') (b : Off X h' h'') : Off X h h'' := fun c o hc e => b c o hc (a c o hc e)
theorem Off.mono {X Y : List Addr} {h h' : Heap} (a : Off X h h') (s : ∀ b ∈ X, b ∈ Y) : Off Y h h' := fun c o hc e => a c o (fun q => hc (s _ q)) e
theorem Off.of_stays {X : List Addr} {h h' : Heap} (a : h.StaysIn h') : Off X h h' := fun c o _ e => a c o e
theorem Soft.trans {L : Addr} {h h' h'' : Heap} (a : Soft L h h') (b : Soft L h' h'') : Soft L h h'' := fun c o e s n => b c o (a c o e s n) s n
theorem Soft.of_stays {L : Addr} {h h' : Heap} (a : h.StaysIn h') : Soft L h h' := fun c o e _ _ => a c o e

theorem ns_dict {h : Heap} {L : Addr} {m : Str → Option Value} (n : h.Ns L m) {o : Obj} (e : h.get? L = some o) : isNsDict o = true := by
  obtain ⟨o', es, ep, ho, hd, _⟩ := n
  rw [e] at ho
  cases ho
  unfold isNsDict
  rw [hd]

/-- everything that stands in h, off the base, the frame's names and X -/
noncomputable def restOf (h₀ : Heap) (L : Addr) (X : List Addr) (h : Heap) : List (Addr × Obj) :=
  (List.range h.objs.size).filterMap fun a => if a = L ∨ a ∈ X ∨ (h₀.get? a).isSome = true then none else (h.get? a).map fun o => (a, o)
theorem mem_restOf {h₀ h : Heap} {L : Addr} {X : List Addr} {p : Addr × Obj} : p ∈ restOf h₀ L X h ↔ (p.1 ≠ L ∧ p.1 ∉ X ∧ h₀.get? p.1 = none ∧ h.get? p.1 = some p.2) := by
  unfold restOf
  rw [List.mem_filterMap]
  constructor
  · rintro ⟨a, _, ha⟩
    split at ha
    · cases ha
    · rename_i hc
      cases e : h.get? a with
      | none => rw [e] at ha; cases ha
      | some o =>
        rw [e] at ha
        cases ha
        refine ⟨fun q => hc (.inl q), fun q => hc (.inr (.inl q)), ?_, e⟩
        cases e0 : h₀.get? a with
        | none => rfl
        | some o' => exact absurd (.inr (.inr (by rw [e0]; rfl))) hc
  · rintro ⟨h1, h2, h3, h4⟩
    refine ⟨p.1, List.mem_range.mpr (Heap.lt_size h4), ?_⟩
    rw [if_neg (by rintro (q | q | q); exact h1 q; exact h2 q; rw [h3] at q; cases q), h4]
    rfl
theorem rest_news {h₀ h : Heap} {L : Addr} {X : List Addr} : News h₀ L h (restOf h₀ L X h) := fun p hp => by
  obtain ⟨h1, _, h3, h4⟩ := mem_restOf.mp hp
  exact ⟨h4, h1, h3⟩
theorem rest_off {h₀ h : Heap} {L : Addr} {X : List Addr} : ∀ b ∈ X, ∀ p ∈ restOf h₀ L X h, p.1 ≠ b := fun b hb p hp e => by
  obtain ⟨_, h2, _⟩ := mem_restOf.mp hp
  exact h2 (e ▸ hb)
theorem off_of_rest {h₀ h h' : Heap} {L : Addr} {X : List Addr} {m : Str → Option Value} {news : List (Addr × Obj)} (F : Fr h₀ L h m) {m' : Str → Option Value} (F' : Fr h₀ L h' m') (N : News h₀ L h' news) (hs : ∀ p ∈ restOf h₀ L X h, p ∈ news) : Off (L :: X) h h' := by
  intro b o hb e
  have h1 : b ≠ L := fun q => hb (q ▸ .head _)
  have h2 : b ∉ X := fun q => hb (.tail _ q)
  cases e0 : h₀.get? b with
  | none => exact (N _ (hs (b, o) (mem_restOf.mpr ⟨h1, h2, e0, e⟩))).1
  | some o' =>
    have := F.keep _ _ e0
    rw [e] at this
    cases this
    exact F'.keep _ _ e0

section
variable {w : World} {A : Around} {E : Value → Shared → Prop} {env : Env} {s : Shared} {g : Heap}

noncomputable def TurnEnd (g : Heap) (L : Addr) (Mu : List Addr) (J : (Str → Option Value) → Heap → Prop) (s₁ : Shared) (Q : Flow → Shared → Prop) (f : Flow) (s₂ : Shared) : Prop :=
  match f with
  | .ret v => Q (.ret v) s₂
  | .brk => Q .next s₂
  | _ => ∃ h' tk m₂, s₂ = { s₁ with heap := h', toks := tk } ∧ Fr g L h' m₂ ∧ Off (L :: Mu) s₁.heap h' ∧ J m₂ h'

theorem TurnEnd.next {L : Addr} {Mu : List Addr} {J : (Str → Option Value) → Heap → Prop} {s₁ : Shared} {Q : Flow → Shared → Prop} {h' : Heap} {tk : Nat} {m₂ : Str → Option Value} {news : List (Addr × Obj)} {m : Str → Option Value}
    (F : Fr g L s₁.heap m) (F' : Fr g L h' m₂) (N : News g L h' news) (hs : ∀ p ∈ restOf g L Mu s₁.heap, p ∈ news) (hJ : J m₂ h') :
    TurnEnd g L Mu J s₁ Q .next { s₁ with heap := h', toks := tk } := ⟨h', tk, m₂, rfl, F', off_of_rest F F' N hs, hJ⟩

theorem for_walks {Q : Flow → Shared → Prop} {x : Str} {px : Pos} {body : List Stmt} {I : Addr} {fp wr : List Addr} {n : Nat} {P : Nat → Value → Prop} {St : Nat → Heap → Prop} {m : Str → Option Value}
    (W : Walks pLaw.row.prog w A I fp wr n P St) (hx : env.kindOf x = some .local)
    (hp : (env.scope.kind == .class || (env.scope.kind == .module && env.locals != env.globals)) = false)
    (hbad : ∀ i h, St i h → ∀ b ∈ wr, ∃ o, h.get? b = some o ∧ soft o = false)
    (hLf : env.locals ∉ fp) (hwr : ∀ b ∈ wr, g.get? b = none) (Mu : List Addr) (hMf : ∀ b ∈ Mu, b ∉ fp)
    (hst : St 0 s.heap) (F : Fr g env.locals s.heap m)
    (J : Nat → (Str → Option Value) → Heap → Prop) (h0 : J 0 m s.heap) (hJ : ∀ i m h h', J i m h → Soft env.locals h h' → J i m h')
    (turn : ∀ i v m₁ h tk, i < n → P i v → J i m₁ h → Fr g env.locals h (fun y => if y = x then some v else m₁ y) →
      wpAny (MM w) A (execs body env) (TurnEnd g env.locals Mu (J (i + 1)) { s with heap := h, toks := tk } Q) (fun _ _ => False) { s with heap := h, toks := tk })
    (done : ∀ h tk m₁, J n m₁ h → Fr g env.locals h m₁ → Q .next { s with heap := h, toks := tk }) :
    codeAny (MM w) A (.forLoop (.Name x px) (.ref I) body [] env) (fun r s' => match r with | .ok f => Q f s' | .error e => cameBackBy (MM w) A env E e s') s := by
  have hLw : env.locals ∉ wr := fun h => hLf (W.sub _ h)
  have old : ∀ b o, g.get? b = some o → b ∉ wr := fun b o e hb => by rw [hwr b hb] at e; cases e
  refine codeAny_forLoop
    (fun k s' => ∃ h' tk m' i, s' = { s with heap := h', toks := tk } ∧ St i h' ∧ Fr g env.locals h' m' ∧ J i m' h' ∧ i ≤ n ∧ k = n + 1 - i) ?_ (n + 1)
    ⟨s.heap, s.toks, m, 0, rfl, hst, F, h0, Nat.zero_le _, rfl⟩
  rintro k s' ⟨h', tk, m', i, rfl, hst', F', hJ', hi, rfl⟩
  have next : ∀ h₁ : Heap, (∀ b o, b ∉ wr → h'.get? b = some o → h₁.get? b = some o) → Fr g env.locals h₁ m' ∧ J i m' h₁ := fun h₁ hk₁ =>
    ⟨⟨F'.ns.at' fun o e => hk₁ _ o hLw e, fun b o e => hk₁ b o (old b o e) (F'.keep b o e), F'.above⟩,
      hJ _ _ _ _ hJ' fun b o e hs _ => hk₁ b o (fun hb => by obtain ⟨o', e', hf⟩ := hbad _ _ hst' b hb; rw [e] at e'; cases e'; rw [hs] at hf; cases hf) e⟩
  by_cases hlt : i < n
  · refine W.item i _ _ _ hlt hst' fun v h₁ tk₁ hP hst₁ hk₁ => ?_
    obtain ⟨F₁, J₁⟩ := next h₁ hk₁
    refine wpAny_assign_Name (wpAny_storeName_local hx F₁.ns (fun h₂ hn₂ hs₂ => ?_) hp)
    have F₂ := F₁.set hn₂ hs₂
    have J₂ : J i m' h₂ := hJ _ _ _ _ J₁ fun b o e _ hd => (hs₂.2 b fun q => by subst q; exact hd (ns_dict F₁.ns e) rfl).trans e
    have hst₂ : St (i + 1) h₂ := W.frame _ _ _ hst₁ fun b hb o e => (hs₂.2 b fun q => hLf (q ▸ hb)).trans e
    refine wpAny_mono (turn i v m' h₂ _ hlt hP J₂ F₂) (fun f s₃ h₃ => ?_) fun _ _ e => e.elim
    have fin : (∃ h' tk m₂, s₃ = { s with heap := h', toks := tk } ∧ Fr g env.locals h' m₂ ∧ Off (env.locals :: Mu) h₂ h' ∧ J (i + 1) m₂ h') →
        ∃ m, m < n + 1 - i ∧ ∃ h' tk m' i, s₃ = { s with heap := h', toks := tk } ∧ St i h' ∧ Fr g env.locals h' m' ∧ J i m' h' ∧ i ≤ n ∧ m = n + 1 - i := by
      rintro ⟨h₄, tk₄, m₄, e, F₄, O₄, J₄⟩
      refine ⟨n + 1 - (i + 1), by omega, h₄, tk₄, m₄, i + 1, e, ?_, F₄, J₄, hlt, rfl⟩
      refine W.frame _ _ _ hst₂ fun b hb o e => O₄ b o (fun q => ?_) e
      rcases List.mem_cons.mp q with q | q
      · exact hLf (q ▸ hb)
      · exact hMf b q hb
    cases f with
    | ret v => exact h₃
    | brk => exact h₃
    | cont => exact fin h₃
    | next => exact fin h₃
  · have hin : i = n := by omega
    subst hin
    refine W.done _ _ _ hst' fun h₁ tk₁ hk₁ => wpAny_execs_nil ?_
    obtain ⟨F₁, J₁⟩ := next h₁ hk₁
    exact done h₁ tk₁ m' J₁ F₁

theorem new_none {h : Heap} {L : Addr} {m : Str → Option Value} (F : Fr g L h m) {a : Addr} (ha : h.objs.size ≤ a) : g.get? a = none := by
  cases e : g.get? a with
  | none => rfl
  | some o => exact absurd (Heap.lt_size (F.keep _ _ e)) (Nat.not_lt.mpr ha)

theorem for_list {Q : Flow → Shared → Prop} {x : Str} {px : Pos} {body : List Stmt} {l : Addr} {vs : List Value} {m : Str → Option Value} (hh : A.handled = none) (hl : s.heap.IsList l vs.toArray) (F : Fr g env.locals s.heap m)
    (Mu : List Addr) (hMl : l ∉ Mu) (hMu : ∀ b ∈ Mu, b < s.heap.objs.size)
    (J : Nat → (Str → Option Value) → Heap → Prop) (h0 : J 0 m s.heap) (hJ : ∀ i m h h', J i m h → Soft env.locals h h' → J i m h')
    (turn : ∀ i v m₁ h tk, vs[i]? = some v → J i m₁ h → Fr g env.locals h (fun y => if y = x then some v else m₁ y) →
      wpAny (MM w) A (execs body env) (TurnEnd g env.locals Mu (J (i + 1)) { s with heap := h, toks := tk } Q) (fun _ _ => False) { s with heap := h, toks := tk })
    (done : ∀ h tk m₁, J vs.length m₁ h → Fr g env.locals h m₁ → Q .next { s with heap := h, toks := tk })
    (hx : env.kindOf x = some .local := by rfl)
    (hp : (env.scope.kind == .class || (env.scope.kind == .module && env.locals != env.globals)) = false := by rfl) :
    wpAny (MM w) A (pyIter (.ref l)) (fun it s₂ => codeAny (MM w) A (.forLoop (.Name x px) it body [] env) (fun r s' => match r with | .ok f => Q f s' | .error e => cameBackBy (MM w) A env E e s') s₂) E s := by
  obtain ⟨ol, hol, hcl, nn, hdl⟩ := id hl
  have hlt : l < s.heap.objs.size := Heap.lt_size hol
  have hLlt := F.ns.lt
  have hlL : l ≠ env.locals := by
    rintro rfl
    have := ns_dict F.ns hol
    unfold isNsDict at this
    rw [hdl] at this
    cases this
  refine wpAny_pyIter_list hl ?_
  have hst : ∀ (b : Addr) (o : Obj), s.heap.get? b = some o → (s.heap.push { cls := .type "list_iterator", data := .fields #[.ref l, .int 0 0] }).get? b = some o := fun b o e => Heap.get?_push_of_some _ e
  have Wl := Walks.list (prog := pLaw.row.prog) (w := w) hh s.heap.objs.size l (Nat.ne_of_lt hlt) vs.toArray
  rw [List.size_toArray] at Wl
  refine for_walks (s := { s with heap := s.heap.push { cls := .type "list_iterator", data := .fields #[.ref l, .int 0 0] } }) Wl hx hp ?_ ?_ ?_ Mu ?_ ⟨⟨_, Heap.get?_push_size _ rfl, rfl, rfl⟩, hl.at fun o e => Heap.get?_push_of_some _ e⟩ (F.push _) J
    (hJ _ _ _ _ h0 (Soft.of_stays hst)) hJ ?_ ?_
  · rintro i h ⟨⟨o, ho, _, hd⟩, _⟩ b hb
    rw [List.mem_singleton.mp hb]
    exact ⟨o, ho, by unfold soft; rw [hd]⟩
  · intro hm
    rcases List.mem_cons.mp hm with e | hm
    · exact absurd hLlt (by rw [e]; exact Nat.lt_irrefl _)
    · exact hlL (List.mem_singleton.mp hm).symm
  · intro b hb
    rw [List.mem_singleton.mp hb]
    exact new_none F (Nat.le_refl _)
  · intro b hb hm
    rcases List.mem_cons.mp hm with e | hm
    · exact absurd (hMu b hb) (by rw [e]; exact Nat.lt_irrefl _)
    · exact hMl (List.mem_singleton.mp hm ▸ hb)
  · intro i v m₁ h tk hi hP hj F'
    exact turn i v m₁ h tk (by simpa using hP) hj F'
  · intro h tk m₁ hj F'
    exact done h tk m₁ hj F'
end

/-- a stop for the walk -/
noncomputable def Hold (p : Prop) : Prop := p
theorem Hold.mk {p : Prop} (h : Hold p) : p := h
theorem Hold.of {p : Prop} (h : p) : Hold p := h
theorem InstAt.stays {h h' : Heap} {x C : Addr} {ox od : Obj} (I : InstAt h x ox C (some od)) (k : h.StaysIn h') : InstAt h' x ox C (some od) := by
  obtain ⟨h1, h2, h3, h4⟩ := I
  refine ⟨k _ _ h1, h2, h3, ?_⟩
  revert h4
  cases ox.dict with
  | none => exact fun e => e
  | some dx => exact fun e => k _ _ e

section
variable {w : World} {A : Around} {E : Value → Shared → Prop} {env : Env} {s : Shared} {g : Heap}
theorem for_range {Q : Flow → Shared → Prop} {x : Str} {px : Pos} {body : List Stmt} {r : Addr} {a b c : Int} {t u v : Tok} {m : Str → Option Value} (hh : A.handled = none) (hr : IsRange s.heap r a b c t u v) (hsmall : Builtin.Range.small a b c = true)
    (n : Nat) (hn : Builtin.Range.rangeSize a b c = n) (F : Fr g env.locals s.heap m)
    (Mu : List Addr) (hMu : ∀ b ∈ Mu, b < s.heap.objs.size)
    (J : Nat → (Str → Option Value) → Heap → Prop) (h0 : J 0 m s.heap) (hJ : ∀ i m h h', J i m h → Soft env.locals h h' → J i m h')
    (turn : ∀ i tv m₁ h tk, i < n → J i m₁ h → Fr g env.locals h (fun y => if y = x then some (.int (a + i * c) tv) else m₁ y) →
      wpAny (MM w) A (execs body env) (TurnEnd g env.locals Mu (J (i + 1)) { s with heap := h, toks := tk } Q) (fun _ _ => False) { s with heap := h, toks := tk })
    (done : ∀ h tk m₁, J n m₁ h → Fr g env.locals h m₁ → Q .next { s with heap := h, toks := tk })
    (hx : env.kindOf x = some .local := by rfl)
    (hp : (env.scope.kind == .class || (env.scope.kind == .module && env.locals != env.globals)) = false := by rfl) :
    wpAny (MM w) A (pyIter (.ref r)) (fun it s₂ => codeAny (MM w) A (.forLoop (.Name x px) it body [] env) (fun r s' => match r with | .ok f => Q f s' | .error e => cameBackBy (MM w) A env E e s') s₂) E s := by
  have hLlt := F.ns.lt
  refine wpAny_pyIter_range hr hsmall ?_
  rw [hn]
  have hst : ∀ (b : Addr) (o : Obj), s.heap.get? b = some o → (s.heap.push { cls := .type "range_iterator", data := .fields #[rawInt a, rawInt n, rawInt c] }).get? b = some o := fun b o e => Heap.get?_push_of_some _ e
  have Wl := Walks.range (prog := pLaw.row.prog) (w := w) hh s.heap.objs.size a c n
  refine for_walks (s := { s with heap := s.heap.push { cls := .type "range_iterator", data := .fields #[rawInt a, rawInt n, rawInt c] } }) Wl hx hp ?_ ?_ ?_ Mu ?_ ?_ (F.push _) J
    (hJ _ _ _ _ h0 (Soft.of_stays hst)) hJ ?_ ?_
  · intro i h st b hb
    rw [List.mem_singleton.mp hb]
    exact ⟨_, st, rfl⟩
  · intro hm
    exact absurd hLlt (by rw [List.mem_singleton.mp hm]; exact Nat.lt_irrefl _)
  · intro b hb
    rw [List.mem_singleton.mp hb]
    exact new_none F (Nat.le_refl _)
  · intro b hb hm
    exact absurd (hMu b hb) (by rw [List.mem_singleton.mp hm]; exact Nat.lt_irrefl _)
  · show Heap.get? _ _ = _
    have e1 : a + ((0 : Nat) : Int) * c = a := by simp
    have e2 : (n : Int) - ((0 : Nat) : Int) = n := by simp
    rw [e1, e2]
    exact Heap.get?_push_size _ rfl
  · intro i v m₁ h tk hi hP hj F'
    obtain ⟨tv, rfl⟩ := hP
    exact turn i tv m₁ h tk hi hj F'
  · intro h tk m₁ hj F'
    exact done h tk m₁ hj F'
theorem rangeSize_up {a b : Int} {n : Nat} (h : (n : Int) = if a < b then b - a else 0) : Builtin.Range.rangeSize a b 1 = n := by
  unfold Builtin.Range.rangeSize
  rw [h]
  simp only [Int.ediv_one]
  (repeat' split) <;> omega
theorem rangeSize_down {a : Nat} : Builtin.Range.rangeSize a (-1) (-1) = ((a + 1 : Nat) : Int) := by
  unfold Builtin.Range.rangeSize
  have e : (-(-1 : Int)) = 1 := rfl
  rw [e]
  simp only [Int.ediv_one]
  (repeat' split) <;> omega
theorem small_up {a b : Nat} (ha : a ≤ 1000) (hb : b ≤ 1000) : Builtin.Range.small a b 1 = true := by
  have h1 : Builtin.Range.rangeSize (a : Int) (b : Int) 1 = ((b - a : Nat) : Int) := rangeSize_up (by split <;> omega)
  unfold Builtin.Range.small
  rw [h1]
  unfold Builtin.Range.rangeFitsLong
  simp only [Bool.and_eq_true, decide_eq_true_eq, Bool.or_eq_true, beq_iff_eq]
  refine ⟨⟨⟨⟨?_, ?_⟩, ?_⟩, ?_⟩, .inr ?_⟩
  all_goals (try simp only [show ((1 : Int) > 0) from by decide, if_true, decide_eq_true_eq, Bool.and_eq_true])
  all_goals omega
theorem small_down {a : Nat} (ha : a ≤ 1000) : Builtin.Range.small a (-1) (-1) = true := by
  unfold Builtin.Range.small
  rw [rangeSize_down]
  unfold Builtin.Range.rangeFitsLong
  simp only [Bool.and_eq_true, decide_eq_true_eq, Bool.or_eq_true, beq_iff_eq]
  refine ⟨⟨⟨⟨?_, ?_⟩, ?_⟩, ?_⟩, .inr ?_⟩
  all_goals (try simp only [show ¬ ((-1 : Int) > 0) from by decide, if_false, decide_eq_true_eq, Bool.and_eq_true])
  all_goals omega
end
theorem cx_units {w : World} {mean : ExcName → Option Value} {mg mb : Str → Option Value} {k : Nat} {A : Around} {base : Heap} {outer : List Env} {h : Heap} (C : Cx w mean mg mb k A base outer h) : A.units + 64 < cLine := by
  have := C.uni
  show A.units + 64 < 9900
  omega
theorem cx_units0 {w : World} {mean : ExcName → Option Value} {mg mb : Str → Option Value} {k : Nat} {A : Around} {base : Heap} {outer : List Env} {h : Heap} (C : Cx w mean mg mb k A base outer h) : A.units < cLine := by
  have := C.uni
  show A.units < 9900
  omega
/-- what is wanted behind, by a name -/
theorem wpAny_gen {α : Type} {M : Model} {A : Around} {t : Sem α} {Q : α → Shared → Prop} {E : Value → Shared → Prop} {s : Shared} (h : ∀ K : α → Shared → Prop, (∀ v s', Q v s' → K v s') → wpAny M A t K E s) : wpAny M A t Q E s := h Q fun _ _ x => x
theorem kfilled (w : World) : pLaw.name = pLaw.name → nsIn (pHeap w.params) mainGlobals (Str.ofString "_law_row") = some (some (.ref 94)) := by
  k_fill
  intro _
  k_is
end
section
local macro_rules | `(tactic| k_inst) => `(tactic| (exact InstAt.stays (by assumption) (Fr.keep (by k_asm))))
local macro_rules | `(tactic| k_get) => `(tactic| assumption)
local macro_rules | `(tactic| ke_room) => `(tactic| exact cx_units (by assumption))
local macro_rules | `(tactic| k_units) => `(tactic| first | exact cx_units0 (by assumption) | exact cx_units (by assumption))
section
local macro_rules | `(tactic| walk_at $s:str) => if ["exec For Name Attribute cons nil", "exec For Name Subscript cons nil", "exec For Name Name cons nil", "exec For Name Call cons nil", "exec For Tuple Call cons nil", "exec While", "pyIter ref", "eval ListComp", "call ref"].contains s.getString then `(tactic| (refine Hold.mk ?_)) else `(tactic| fail)
local macro_rules | `(tactic| walk_at "eval Name") => `(tactic| (k_here; k_dflt (refine' ld ?k1 ?k2 ?_; (case k1 => k_asm); (case k2 => assumption); k_whole)))
variable {w : World} {mean : ExcName → Option Value} {mg mb : Str → Option Value} {A : Around} {base : Heap} {outer : List Env} {s : Shared}
-- RApplies
noncomputable def hitB (y a : Str) : Bool := (a != Str.ofString "*") && !(Builtin.Str.occurrences (Txt.lower y) (Txt.lower a) 0 (Txt.lower y).length 1).isEmpty
noncomputable def headOf (t : Str) : Str := ((Txt.split t (Str.ofString "/"))[0]?).getD Str.empty
noncomputable def appliesF (ags : List Str) (t : Str) : Bool := ags.any (hitB (headOf t))
theorem any_true_at {α : Type} {p : α → Bool} {l : List α} {i : Nat} {a : α} (h : l[i]? = some a) (hp : p a = true) : l.any p = true :=
  List.any_eq_true.mpr ⟨a, List.mem_of_getElem? h, hp⟩
theorem any_take_succ {α : Type} {p : α → Bool} {l : List α} {i : Nat} {a : α} (h : l[i]? = some a) (hp : p a = false) (hi : (l.take i).any p = false) : (l.take (i + 1)).any p = false := by
  rw [List.take_add_one, h]
  simp [hi, hp]

theorem applies_spec {x dx u : Addr} {es : List DictEntry} {n : Nat} {vs : List Value} {t : Str} {tok : Tok} {R : Result → Shared → Prop} {k : Nat} (C : Cx w mean mg mb (k + 1) A base outer s.heap)
    (I : InstAt s.heap x (instObj 52 dx) 52 (some (dictOf es n))) (hu : getL (Str.ofString "useragents") es = some (some (.ref u))) (hl : s.heap.IsList u vs.toArray) {ags : List Str} (hags : StrsAre vs ags) (hagl : ∀ a ∈ ags, a.length ≤ 10) (ht : t.length ≤ 100)
    (hR : ∀ h' tk, s.heap.StaysIn h' → R (.ok (.ret (.bool (appliesF ags t)))) { s with heap := h', toks := tk }) :
    codeAny (MM w) A (.call (.ref 42) ⟨[.ref x, .str t tok], []⟩) R s := by
  refine enter C (by k_is) (by k_is) (BindsTo.of_eq rfl) (locs rfl) rfl rfl rfl (by decide) ?_
  intro L h₁ tk F N C'
  have X := C.X
  have T := C.T
  have B := C.B
  k_steps
  rename_i l h' k hlook hstrs hal hIs F1 N1 y t' hy
  have hyl : y.length ≤ 100 := Nat.le_trans (hal y (List.mem_of_getElem? hy)) ht
  have hhead : headOf t = y := by
    unfold headOf
    rw [← hlook]
    have : (List.map (fun x => x.fst) l)[0]? = some y := hy
    rw [this]
    rfl
  refine SCL.lower (by omega) ?_
  intro hlow
  k_steps
  refine Hold.of ?_
  refine' wpAny_For ?_ ?hs
  case hs => intro _; rfl
  k_steps
  refine Hold.of ?_
  rename Fr _ _ _ _ => F2
  refine for_list (g := s.heap) C'.hh (hl.at fun o e => F2.keep _ _ e) F2 [] (by simp) (by simp) (fun i m h => m (Str.ofString "useragent") = some (.str (Txt.lower y) _) ∧ (ags.take i).any (hitB y) = false) ⟨rfl, by simp⟩ (fun _ _ _ _ a _ => a) ?_ ?_
  · intro i v m₁ h tk hv hJ F3
    obtain ⟨a, ta, rfl, hai⟩ : ∃ a t, v = .str a t ∧ ags[i]? = some a := StrsAre.item hags i v hv
    have hal : a.length ≤ 10 := hagl a (List.mem_of_getElem? hai)
    have N3 : News s.heap L h (restOf s.heap L [] h) := rest_news
    obtain ⟨hJ1, hJ2⟩ := hJ
    k_steps
    · rename_i h1 _ _ h' F4 N4 h2
      refine' TurnEnd.next ?a F4 N4 ?b ?c
      case a => exact F3
      case b => exact fun p hp => hp
      case c => exact ⟨hJ1, any_take_succ hai (by unfold hitB; rw [h1, h2]; rfl) hJ2⟩
    · rename_i h1 _ _ h' F4 N4 h2
      have e : appliesF ags t = true := any_true_at hai (by unfold hitB; rw [hhead, h1, h2]; rfl)
      rw [e] at hR
      exact hR _ _ F4.keep
    · rename_i h1
      refine' TurnEnd.next ?a F3 N3 ?b ?c
      case a => exact F3
      case b => exact fun p hp => hp
      case c => exact ⟨hJ1, any_take_succ hai (by unfold hitB; rw [h1]; rfl) hJ2⟩
  · intro h tk m₁ hJ F3
    have e : appliesF ags t = false := by
      unfold appliesF
      rw [hhead, ← hJ.2, hags.length, List.take_length]
    rw [e] at hR
    dsimp only
    k_steps
    exact hR _ _ F3.keep
end
section
local macro_rules | `(tactic| walk_at $s:str) => if ["exec For Name Attribute cons nil", "exec For Name Subscript cons nil", "exec For Name Name cons nil", "exec For Name Call cons nil", "exec For Tuple Call cons nil", "exec While", "pyIter ref", "eval ListComp", "call ref"].contains s.getString then `(tactic| (refine Hold.mk ?_)) else `(tactic| fail)
local macro_rules | `(tactic| walk_at "eval Name") => `(tactic| (k_here; k_dflt (refine' ld ?k1 ?k2 ?_; (case k1 => k_asm); (case k2 => assumption); k_whole)))
-- RAllow2
section
variable {w : World} {mean : ExcName → Option Value} {mg mb : Str → Option Value} {A : Around} {base : Heap} {outer : List Env} {s : Shared}
noncomputable def RuleAt (h : Heap) (x : Addr) (ags : List Str) (verdict : Bool) : Prop :=
  ∃ dx es n u vs, InstAt h x (instObj 52 dx) 52 (some (dictOf es n)) ∧ getL (Str.ofString "useragents") es = some (some (.ref u)) ∧ getL (Str.ofString "allowance") es = some (some (.bool verdict)) ∧
    getL (Str.ofString "applies_to") es = some none ∧ h.IsList u (List.toArray vs) ∧ StrsAre vs ags ∧ ∀ a ∈ ags, a.length ≤ 10
inductive RulesAre (h : Heap) : List Value → List (List Str × Bool) → Prop
  | nil : RulesAre h [] []
  | cons {x : Addr} {ags : List Str} {v : Bool} {vs : List Value} {rs : List (List Str × Bool)} : RuleAt h x ags v → RulesAre h vs rs → RulesAre h (.ref x :: vs) ((ags, v) :: rs)
theorem RuleAt.stays {h h' : Heap} (k : h.StaysIn h') {x : Addr} {ags : List Str} {v : Bool} (r : RuleAt h x ags v) : RuleAt h' x ags v := by
  obtain ⟨dx, es, n, u, vs, a, b, c, d, e, f⟩ := r
  exact ⟨dx, es, n, u, vs, InstAt.stays a k, b, c, d, e.at fun o q => k _ _ q, f⟩
theorem RulesAre.stays {h h' : Heap} (k : h.StaysIn h') {vs : List Value} {rs : List (List Str × Bool)} (r : RulesAre h vs rs) : RulesAre h' vs rs := by
  induction r with
  | nil => exact .nil
  | cons a _ ih => exact .cons (a.stays k) ih
theorem RulesAre.item {h : Heap} {vs : List Value} {rs : List (List Str × Bool)} (r : RulesAre h vs rs) : ∀ (i : Nat) (v : Value), vs[i]? = some v → ∃ x ags b, v = .ref x ∧ rs[i]? = some (ags, b) ∧ RuleAt h x ags b := by
  induction r with
  | nil => intro i v e; cases e
  | cons a _ ih =>
    intro i v e
    cases i with
    | zero => exact ⟨_, _, _, (Option.some.inj e).symm, rfl, a⟩
    | succ i => exact ih i v e
theorem RulesAre.length {h : Heap} {vs : List Value} {rs : List (List Str × Bool)} (r : RulesAre h vs rs) : vs.length = rs.length := by
  induction r with
  | nil => rfl
  | cons _ _ ih => exact congrArg Nat.succ ih
theorem RulesAre.append {h : Heap} {vs : List Value} {rs : List (List Str × Bool)} {vs' : List Value} {rs' : List (List Str × Bool)} (r : RulesAre h vs rs) (b : RulesAre h vs' rs') : RulesAre h (vs ++ vs') (rs ++ rs') := by
  induction r with
  | nil => exact b
  | cons a _ ih => exact .cons a ih
noncomputable def RecAt (h : Heap) (x : Addr) (rules : List (List Str × Bool)) : Prop :=
  ∃ dx es n rl vs, InstAt h x (instObj 52 dx) 52 (some (dictOf es n)) ∧ getL (Str.ofString "rulelines") es = some (some (.ref rl)) ∧ getL (Str.ofString "allowance") es = some none ∧ h.IsList rl (List.toArray vs) ∧ RulesAre h vs rules
theorem RecAt.stays {h h' : Heap} (k : h.StaysIn h') {x : Addr} {rules : List (List Str × Bool)} (r : RecAt h x rules) : RecAt h' x rules := by
  obtain ⟨dx, es, n, rl, vs, a, b, c, d, e⟩ := r
  exact ⟨dx, es, n, rl, vs, InstAt.stays a k, b, c, d.at fun o q => k _ _ q, e.stays k⟩
/-- the verdict of the rules upon a text -/
noncomputable def allowF (rules : List (List Str × Bool)) (t : Str) : Bool :=
  !(rules.any fun r => appliesF r.1 t) || rules.any fun r => appliesF r.1 t && r.2
noncomputable def AllowInv (rules : List (List Str × Bool)) (t : Str) (i : Nat) (bm : Value) (al : Bool) : Prop :=
  ((∃ t', bm = .int (-1) t') ∧ (rules.take i).any (fun r => appliesF r.1 t) = false ∧ al = true) ∨ (bm = .bool true ∧ (rules.take i).any (fun r => appliesF r.1 t) = true ∧ al = (rules.take i).any fun r => appliesF r.1 t && r.2)
theorem allowInv_end {rules : List (List Str × Bool)} {t : Str} {bm : Value} {al : Bool} (h : AllowInv rules t rules.length bm al) : al = allowF rules t := by
  unfold AllowInv at h
  rw [List.take_length] at h
  unfold allowF
  rcases h with ⟨_, h1, h2⟩ | ⟨_, h1, h2⟩
  · rw [h1, h2]; rfl
  · rw [h1, h2]; rfl
theorem allowInv_skip {rules : List (List Str × Bool)} {t : Str} {i : Nat} {bm : Value} {al v : Bool} {ags : List Str} (h : AllowInv rules t i bm al) (hi : rules[i]? = some (ags, v)) (ha : appliesF ags t = false) : AllowInv rules t (i + 1) bm al := by
  unfold AllowInv at *
  rw [List.take_add_one, hi]
  simp only [Option.toList_some, List.any_append, List.any_cons, List.any_nil, ha, Bool.or_false, Bool.false_and]
  exact h
theorem allowInv_first {rules : List (List Str × Bool)} {t : Str} {i : Nat} {t' : Tok} {al v : Bool} {ags : List Str} (h : AllowInv rules t i (.int (-1) t') al) (hi : rules[i]? = some (ags, v)) (ha : appliesF ags t = true) : AllowInv rules t (i + 1) (.bool true) v := by
  unfold AllowInv at *
  rcases h with ⟨_, h1, h2⟩ | ⟨h0, _⟩
  · refine .inr ⟨rfl, ?_, ?_⟩
    · rw [List.take_add_one, hi]; simp [ha]
    · rw [List.take_add_one, hi]
      have : (rules.take i).any (fun r => appliesF r.1 t && r.2) = false := by
        rw [List.any_eq_false] at h1 ⊢
        intro r hr
        have := h1 r hr
        simp [this]
      simp [ha, this]
  · cases h0
theorem allowInv_more {rules : List (List Str × Bool)} {t : Str} {i : Nat} {al v : Bool} {ags : List Str} (h : AllowInv rules t i (.bool true) al) (hi : rules[i]? = some (ags, v)) (ha : appliesF ags t = true) : AllowInv rules t (i + 1) (.bool true) (al || v) := by
  unfold AllowInv at *
  rcases h with ⟨⟨_, h0⟩, _⟩ | ⟨_, h1, h2⟩
  · cases h0
  · refine .inr ⟨rfl, ?_, ?_⟩
    · rw [List.take_add_one, hi]; simp [ha]
    · rw [List.take_add_one, hi]; simp [ha, h2]

theorem findObj_shadow {K : Frag} {C : Addr} {od : Obj} {name : Str} {v a gg : Value} (hh : hasDictIn K C = true) (ha : findIn K (.ref C) name = some (some a)) (hn : specialIn K a "__get__" = some (some gg)) (ht : takesIn K a = some false) (hl : lookIn name od = some (some v)) :
    findObj K C (some od) name = some (.value v) := by
  obtain ⟨cd, hc, hd⟩ := any_some hh
  unfold findObj
  rw [hc, Option.bind_some, ha, Option.bind_some]
  have ho : PySem.W.ownOf cd (some od) name = some (some v) := by unfold PySem.W.ownOf; rw [if_pos hd]; exact hl
  simp [hn, ht, ho]
theorem get_shadow {K : Frag} {C x L : Addr} {ox : Obj} {es : List DictEntry} {n : Nat} {name : Str} {v a gg : Value} {h₀ : Heap} {m : Str → Option Value} {prog : Program} {E : Value → Shared → Prop} {expr : Bool} {Q : Value → Shared → Prop} (F : Fr h₀ L s.heap m) (X₀ : K.In h₀) (I : InstAt s.heap x ox C (some (dictOf es n))) (hg : plainGet K C name = true) (hh : hasDictIn K C = true)
    (ha : findIn K (.ref C) name = some (some a)) (hn : specialIn K a "__get__" = some (some gg)) (ht : takesIn K a = some false) (hl : getL name es = some (some v)) (hv : handedIn v = true) (h : Q v { s with toks := s.toks + 1 }) :
    wpAny (model prog w) A (getAttr (.ref x) name expr) Q E s :=
  get_value (X₀.keeps F.keep) I (plainGet_of hg).1 (findObj_shadow hh ha hn ht hl) hv h
local macro_rules | `(tactic| walk_at "getAttr ref") => `(tactic| (k_here; k_dflt (refine' get_shadow ?k1 ?k2 ?k3 ?k4 ?k5 ?k6 ?k7 ?k7b ?k8 ?k9 ?_; (case k1 => k_asm); (case k2 => k_asm); (case k3 => k_inst); (case k4 => k_is); (case k5 => k_is); (case k6 => k_is); (case k7 => k_is); (case k7b => k_is); (case k8 => k_get); (case k9 => k_handed); k_whole)))
theorem gives_gt_bool_int (p : Bool) (b : Int) (u : Tok) : Gives (Builtin.«int.__gt__» ⟨[.bool p, .int b u], []⟩) (.val (Value.bool ((fun x1 x2 => decide (x1 > x2)) (if p = true then (1 : Int) else 0) b))) :=
  .of_wp fun M A E s Q h => by obtain ⟨hp, g, d, tk, os⟩ := s; wp_walk; exact ⟨_, rfl, h⟩
theorem gt_bool_int {prog : Program} {E : Value → Shared → Prop} {a : Bool} {b : Int} {u : Tok} {Q : Value → Shared → Prop} (h : Q (.bool (decide ((if a = true then (1 : Int) else 0) > b))) s) : wpAny (model prog w) A (compareOp .Gt (.bool a) (.int b u)) Q E s := by
  show wpAny _ A (richCompare .Gt _ _) Q E s
  exact wpAny_richCompare_left (typeIs_bool' s a) (typeIs_int s b u) (by decide) F.sub_int_bool F.slot_bool_gt
    (call_gives F.slot_bool_gt (typeIs_bool' s a) F.entry_int_gt (F.args_int_gt_2 _ _) (gives_gt_bool_int a b u) ⟨nofun, h⟩)
local macro_rules | `(tactic| walk_at "compareOp Gt bool int") => `(tactic| (refine gt_bool_int ?_))
inductive AllowJ (rules : List (List Str × Bool)) (t : Str) (tok : Tok) (i : Nat) (m : Str → Option Value) : Prop
  | mk (bm : Value) (al : Bool) (hfn : m (Str.ofString "filename") = some (.str t tok)) (hbm : m (Str.ofString "best_match") = some bm) (hal : m (Str.ofString "allowance") = some (.bool al)) (hinv : AllowInv rules t i bm al) : AllowJ rules t tok i m
theorem allow_spec {x : Addr} {rules : List (List Str × Bool)} {t : Str} {tok : Tok} {R : Result → Shared → Prop} {k : Nat} (C : Cx w mean mg mb (k + 2) A base outer s.heap)
    (hrec : RecAt s.heap x rules) (ht : t.length ≤ 100)
    (hR : ∀ h' tk, s.heap.StaysIn h' → R (.ok (.ret (.bool (allowF rules t)))) { s with heap := h', toks := tk }) :
    codeAny (MM w) A (.call (.ref 49) ⟨[.ref x, .str t tok], []⟩) R s := by
  obtain ⟨dx, es, n, rl, vs, I, hrl, hal0, hl, hrules⟩ := hrec
  refine enter C (by k_is) (by k_is) (BindsTo.of_eq rfl) (locs rfl) rfl rfl rfl (by decide) ?_
  intro L h₁ tk F N C'
  have X := C.X
  have T := C.T
  have B := C.B
  k_steps
  refine Hold.of ?_
  refine' wpAny_For ?_ ?hs
  case hs => intro _; rfl
  k_steps
  refine Hold.of ?_
  rename Fr _ _ _ _ => F2
  refine for_list (g := s.heap) C'.hh (hl.at fun o e => F2.keep _ _ e) F2 [] (by simp) (by simp)
    (fun i m _ => AllowJ rules t tok i m)
    ⟨_, _, rfl, rfl, rfl, .inl ⟨⟨_, rfl⟩, by simp, rfl⟩⟩ (fun _ _ _ _ a _ => a) ?_ ?_
  · intro i v m₁ h tk hv hJ F3
    refine wpAny_gen ?_
    intro K hK
    obtain ⟨bm, al, hfn, hbm, hal, hinv⟩ := hJ
    obtain ⟨y, ags, b, rfl, hri, hrule⟩ := hrules.item i v hv
    obtain ⟨dy, ey, ny, u, us, Iy, hu, hva, hap, hul, hstr, hlen⟩ := hrule
    have N3 : News s.heap L h (restOf s.heap L [] h) := rest_news
    k_steps
    refine Hold.of ?_
    refine wpAny_call (applies_spec (C.deeper F3 rfl rfl) (InstAt.stays Iy F3.keep) hu (hul.at fun o e => F3.keep _ _ e) hstr hlen ht ?_)
    intro h4 tk4 st4
    have F4 := Fr.keeps F3 st4
    have N4 := News.keeps N3 st4
    clear N3
    dsimp only
    cases eA : appliesF ags t with
    | false =>
      k_steps
      rename Fr _ _ _ _ => F9
      rename News _ _ _ _ => N9
      refine hK _ _ ?_
      refine' TurnEnd.next ?a F9 N9 ?b ?c
      case a => exact F3
      case b => exact fun p hp => hp
      case c => exact ⟨bm, al, hfn, hbm, hal, allowInv_skip hinv hri eA⟩
    | true =>
      have hinv0 := hinv
      unfold AllowInv at hinv
      rcases hinv with ⟨⟨t', rfl⟩, _, rfl⟩ | ⟨rfl, _, _⟩
      · k_steps
        rename Fr _ _ _ _ => F9
        rename News _ _ _ _ => N9
        refine hK _ _ ?_
        refine' TurnEnd.next ?a F9 N9 ?b ?c
        case a => exact F3
        case b => exact fun p hp => hp
        case c => exact ⟨_, b, hfn, rfl, rfl, allowInv_first hinv0 hri eA⟩
      · k_steps
        · rename Fr _ _ _ _ => F9
          rename News _ _ _ _ => N9
          rename al = true => eal
          subst eal
          refine hK _ _ ?_
          refine' TurnEnd.next ?a F9 N9 ?b ?c
          case a => exact F3
          case b => exact fun p hp => hp
          case c => exact ⟨_, true, hfn, hbm, hal, allowInv_more hinv0 hri eA⟩
        · rename Fr _ _ _ _ => F9
          rename News _ _ _ _ => N9
          rename al = false => eal
          subst eal
          refine hK _ _ ?_
          refine' TurnEnd.next ?a F9 N9 ?b ?c
          case a => exact F3
          case b => exact fun p hp => hp
          case c => exact ⟨_, b, hfn, hbm, rfl, by simpa using allowInv_more hinv0 hri eA⟩
  · intro h tk m₁ hJ F3
    obtain ⟨bm, al, hfn, hbm, hal, hinv⟩ := hJ
    rw [hrules.length] at hinv
    have e := allowInv_end hinv
    subst e
    dsimp only
    k_steps
    exact hR _ _ F3.keep
end
end
section
local macro_rules | `(tactic| walk_at $s:str) => if ["exec For Name Attribute cons nil", "exec For Name Subscript cons nil", "exec For Name Name cons nil", "exec For Name Call cons nil", "exec For Tuple Call cons nil", "exec While", "pyIter ref", "eval ListComp", "call ref"].contains s.getString then `(tactic| (refine Hold.mk ?_)) else `(tactic| fail)
local macro_rules | `(tactic| walk_at "eval Name") => `(tactic| (k_here; k_dflt (refine' ld ?k1 ?k2 ?_; (case k1 => k_asm); (case k2 => assumption); k_whole)))
variable {w : World} {mean : ExcName → Option Value} {mg mb : Str → Option Value} {A : Around} {base : Heap} {outer : List Env} {s : Shared}
-- RItems
theorem item_at {prog : Program} {E : Value → Shared → Prop} {value slice : PySem.Expr} {l : Addr} {vs : List Value} {k : Nat} {kk : Int} {u : Tok} {v : Value} {Q : Value → Shared → Prop}
    (hl : s.heap.IsList l vs.toArray) (hkk : kk = k) (hx : vs[k]? = some v) (hhi : k < 100000) (h : Q v s)
    (hs : subscripted slice false (.ref l) (.int kk u) = operate [.ref l, .int kk u] (getItem (.ref l) (.int kk u)) := by with_unfolding_all rfl) :
    wpAny (model prog w) A (subscriptTail value slice (.ref l) (.int kk u)) Q E s := by
  subst hkk
  exact tail_any hl.typeIs slot_list_getitem.lookup (wpAny_getItem_list hl (by omega) (by omega) (by simpa using hx) h) hs
theorem item_last {prog : Program} {E : Value → Shared → Prop} {value slice : PySem.Expr} {l : Addr} {vs : List Value} {u : Tok} {v : Value} {Q : Value → Shared → Prop}
    (hl : s.heap.IsList l (vs ++ [v]).toArray) (h : Q v s)
    (hs : subscripted slice false (.ref l) (.int (-1) u) = operate [.ref l, .int (-1) u] (getItem (.ref l) (.int (-1) u)) := by with_unfolding_all rfl) :
    wpAny (model prog w) A (subscriptTail value slice (.ref l) (.int (-1) u)) Q E s := by
  refine tail_any hl.typeIs slot_list_getitem.lookup (wpAny_getItem_list_neg hl (by decide) ?_ (by decide) ?_ h) hs
  · simp only [List.size_toArray, List.length_append, List.length_singleton]; omega
  · have e : ((-1 : Int) + ((vs ++ [v]).toArray.size : Nat)).toNat = vs.length := by
      simp only [List.size_toArray, List.length_append, List.length_singleton]; omega
    rw [e]
    simp
theorem ints_snoc_inv {vs : List Value} {ns : List Int} {n : Int} (h : IntsAre vs (ns ++ [n])) : ∃ vs' t, vs = vs' ++ [.int n t] ∧ IntsAre vs' ns := by
  induction ns generalizing vs with
  | nil =>
    cases h with
    | cons _ t h2 =>
      cases h2
      exact ⟨[], t, rfl, .nil⟩
  | cons a r ih =>
    cases h with
    | cons _ t h2 =>
      obtain ⟨vs', t', rfl, h3⟩ := ih h2
      exact ⟨_ :: vs', t', rfl, .cons _ _ h3⟩
end
section
local macro_rules | `(tactic| walk_at $s:str) => if ["exec For Name Attribute cons nil", "exec For Name Subscript cons nil", "exec For Name Name cons nil", "exec For Name Call cons nil", "exec For Tuple Call cons nil", "exec While", "pyIter ref", "eval ListComp", "call ref", "subscriptTail Name UnaryOp ref int", "subscriptTail Name Subscript ref int", "subscriptTail Name Name ref int", "subscriptTail Name UnaryOp Constant ref int", "subscriptTail Name Subscript Name UnaryOp ref int", "call builtin:list.append cons nil", "call builtin:list.pop cons nil", "compareOp NotEq ref ref", "compareOp Eq ref ref", "compareOp In int ref"].contains s.getString then `(tactic| (refine Hold.mk ?_)) else `(tactic| fail)
local macro_rules | `(tactic| walk_at "eval Name") => `(tactic| (k_here; k_dflt (refine' ld ?k1 ?k2 ?_; (case k1 => k_asm); (case k2 => assumption); k_whole)))
local macro_rules | `(tactic| walk_at "no such place") => `(tactic| fail)
local macro_rules | `(tactic| walk_at "no such place") => `(tactic| fail)
local macro_rules | `(tactic| walk_at "no such place") => `(tactic| fail)
-- RClosed2
variable {w : World} {mean : ExcName → Option Value} {mg mb : Str → Option Value} {A : Around} {base : Heap} {outer : List Env} {s : Shared}
/-- a list of pairs of ints, as tuples -/
inductive PairsAre (h : Heap) : List Value → List (Nat × Nat) → Prop
  | nil : PairsAre h [] []
  | cons {a : Addr} {p q : Nat} {t u : Tok} {vs : List Value} {ps : List (Nat × Nat)} : h.get? a = some { cls := .type "tuple", data := .seq #[.int p t, .int q u] } → PairsAre h vs ps → PairsAre h (.ref a :: vs) ((p, q) :: ps)
noncomputable def TupStay (h h' : Heap) : Prop := ∀ a o, h.get? a = some o → o.cls = .type "tuple" → (∃ xs n, o.data = .seq xs n) → h'.get? a = some o
theorem TupStay.of_stays {h h' : Heap} (k : h.StaysIn h') : TupStay h h' := fun a o e _ _ => k a o e
theorem TupStay.of_soft {L : Addr} {h h' : Heap} (k : Soft L h h') : TupStay h h' := fun a o e _ hd => by
  obtain ⟨xs, n, hd⟩ := hd
  exact k a o e (by unfold soft; rw [hd]) (by unfold isNsDict; rw [hd]; intro q; cases q)
theorem TupStay.trans {h h' h'' : Heap} (a : TupStay h h') (b : TupStay h' h'') : TupStay h h'' := fun c o e x y => b c o (a c o e x y) x y
theorem TupStay.of_off {X : List Addr} {h h' : Heap} (k : Off X h h') (hx : ∀ b ∈ X, ∀ o, h.get? b = some o → o.cls = .type "tuple" → (∃ xs n, o.data = .seq xs n) → False) : TupStay h h' := fun a o e c d =>
  k a o (fun q => hx a q o e c d) e
theorem PairsAre.stay {h h' : Heap} (k : TupStay h h') {vs : List Value} {ps : List (Nat × Nat)} (r : PairsAre h vs ps) : PairsAre h' vs ps := by
  induction r with
  | nil => exact .nil
  | cons e _ ih => exact .cons (k _ _ e rfl ⟨_, _, rfl⟩) ih
theorem PairsAre.snoc {h : Heap} {a : Addr} {p q : Nat} {t u : Tok} (e : h.get? a = some { cls := .type "tuple", data := .seq #[.int p t, .int q u] }) {vs : List Value} {ps : List (Nat × Nat)} (r : PairsAre h vs ps) : PairsAre h (vs ++ [.ref a]) (ps ++ [(p, q)]) := by
  induction r with
  | nil => exact .cons e .nil
  | cons e' _ ih => exact .cons e' ih
theorem PairsAre.append {h : Heap} {vs : List Value} {ps : List (Nat × Nat)} {vs' : List Value} {ps' : List (Nat × Nat)} (r : PairsAre h vs ps) (b : PairsAre h vs' ps') : PairsAre h (vs ++ vs') (ps ++ ps') := by
  induction r with
  | nil => exact b
  | cons a _ ih => exact .cons a ih
theorem PairsAre.length {h : Heap} {vs : List Value} {ps : List (Nat × Nat)} (r : PairsAre h vs ps) : vs.length = ps.length := by
  induction r with
  | nil => rfl
  | cons _ _ ih => exact congrArg Nat.succ ih
noncomputable def PairsAt (h : Heap) (a : Addr) (ps : List (Nat × Nat)) : Prop := ∃ vs n, h.get? a = some (listOf (List.toArray vs) n) ∧ PairsAre h vs ps
theorem PairsAt.stays {h h' : Heap} (k : h.StaysIn h') {a : Addr} {ps : List (Nat × Nat)} (p : PairsAt h a ps) : PairsAt h' a ps :=
  let ⟨vs, n, e, r⟩ := p; ⟨vs, n, k _ _ e, r.stay (.of_stays k)⟩
theorem ns_notTup {h : Heap} {L : Addr} {m : Str → Option Value} (n : h.Ns L m) {o : Obj} (e : h.get? L = some o) (hd : ∃ xs n, o.data = .seq xs n) : False := by
  have := ns_dict n e
  obtain ⟨xs, k, hd⟩ := hd
  unfold isNsDict at this
  rw [hd] at this
  cases this
/-- the pile -/
noncomputable def closedStep (rs ks : List Int) (st : List Nat × List (Nat × Nat)) (place : Nat) : List Nat × List (Nat × Nat) :=
  match st.1.getLast? with
  | none => (st.1 ++ [place], st.2)
  | some q => if rs.getD q 0 ∈ ks ∧ rs.getD place 0 = rs.getD q 0 + 1 then (st.1.dropLast, st.2 ++ [(q, place)]) else (st.1 ++ [place], st.2)
noncomputable def closedRun (rs ks : List Int) (b : Nat) (i : Nat) : List Nat × List (Nat × Nat) := (List.range' b i).foldl (closedStep rs ks) ([], [])
noncomputable def closedF (rs ks : List Int) (b e : Nat) : List (Nat × Nat) := (closedRun rs ks b (e - b)).2
theorem closedRun_succ (rs ks : List Int) (b i : Nat) : closedRun rs ks b (i + 1) = closedStep rs ks (closedRun rs ks b i) (b + i) := by
  unfold closedRun
  rw [List.range'_concat, List.foldl_append]
  simp
theorem closedStep_lt {rs ks : List Int} {st : List Nat × List (Nat × Nat)} {place n : Nat} (h : ∀ q ∈ st.1, q < place) : ∀ q ∈ (closedStep rs ks st place).1, q < place + 1 := by
  unfold closedStep
  intro q hq
  split at hq
  · rcases List.mem_append.mp hq with h1 | h1
    · exact Nat.lt_succ_of_lt (h q h1)
    · rw [List.mem_singleton.mp h1]; exact Nat.lt_succ_self _
  · split at hq
    · exact Nat.lt_succ_of_lt (h q ((List.dropLast_sublist st.1).subset hq))
    · rcases List.mem_append.mp hq with h1 | h1
      · exact Nat.lt_succ_of_lt (h q h1)
      · rw [List.mem_singleton.mp h1]; exact Nat.lt_succ_self _
theorem closedRun_lt {rs ks : List Int} {b : Nat} : ∀ (i : Nat), ∀ q ∈ (closedRun rs ks b i).1, q < b + i
  | 0, q, hq => by simp [closedRun] at hq
  | i + 1, q, hq => by
    rw [closedRun_succ] at hq
    exact closedStep_lt (n := 0) (closedRun_lt i) q hq
theorem list_notTup {h : Heap} {a : Addr} {xs : Array Value} {n : Nat} (e : h.get? a = some (listOf xs n)) {o : Obj} (e' : h.get? a = some o) (c : o.cls = .type "tuple") : False := by
  rw [e] at e'; cases e'; exact absurd (Value.type.inj c) (by decide)
theorem tupStay_rest {g h h5 : Heap} {L pl pr : Addr} {xs ys : Array Value} {n n' : Nat} {m m5 : Str → Option Value} {news rest : List (Addr × Obj)} (hrest : restOf g L [pl, pr] h = rest) (F3 : Fr g L h m) (F5 : Fr g L h5 m5) (N5 : News g L h5 news) (hs : ∀ p ∈ rest, p ∈ news)
    (e1 : h.get? pl = some (listOf xs n)) (e3 : h.get? pr = some (listOf ys n')) : TupStay h h5 := by
  refine .of_off (off_of_rest F3 F5 N5 (by rw [hrest]; exact hs)) fun b hb o e c d => ?_
  rcases List.mem_cons.mp hb with rfl | hb
  · exact ns_notTup F3.ns e d
  · rcases List.mem_cons.mp hb with rfl | hb
    · exact list_notTup e1 e c
    · rw [List.mem_singleton.mp hb] at e
      exact list_notTup e3 e c
theorem ints_snoc {vs : List Value} {ns : List Int} {n : Int} {t : Tok} (h : IntsAre vs ns) : IntsAre (vs ++ [.int n t]) (ns ++ [n]) := by
  induction h with
  | nil => exact .cons _ _ .nil
  | cons a b _ ih => exact .cons _ _ ih
theorem closed_push {g h h5 : Heap} {L pl pr : Addr} {vs ws : List Value} {n n' : Nat} {pile : List Nat} {pairs : List (Nat × Nat)} {place : Nat} {kk : Int} {tv : Tok} {l5 : Addr} {o5 : Obj} {m m5 : Str → Option Value} {rest : List (Addr × Obj)} (hrest : restOf g L [pl, pr] h = rest)
    (hkk : kk = place) (F3 : Fr g L h m) (F5 : Fr g L h5 m5) (N5 : News g L h5 ((l5, o5) :: (pl, listOf ((List.toArray vs).push (.int kk tv)) (n + 1)) :: (pr, listOf (List.toArray ws) n') :: rest))
    (e1 : h.get? pl = some (listOf (List.toArray vs) n)) (e3 : h.get? pr = some (listOf (List.toArray ws) n')) (e2 : IntsAre vs (pile.map Nat.cast)) (e4 : PairsAre h ws pairs) :
    (∃ vs n, h5.get? pl = some (listOf (List.toArray vs) n) ∧ IntsAre vs ((pile ++ [place]).map Nat.cast)) ∧ ∃ ws n, h5.get? pr = some (listOf (List.toArray ws) n) ∧ PairsAre h5 ws pairs := by
  subst hkk
  have st := tupStay_rest hrest F3 F5 N5 (fun p hp => .tail _ (.tail _ (.tail _ hp))) e1 e3
  refine ⟨⟨vs ++ [.int place tv], n + 1, ?_, ?_⟩, ws, n', (N5 _ (.tail _ (.tail _ (.head _)))).1, e4.stay st⟩
  · have := (N5 _ (.tail _ (.head _))).1
    rw [List.push_toArray] at this
    exact this
  · rw [List.map_append]; exact ints_snoc e2
theorem closed_pop {g h h5 : Heap} {L pl pr t : Addr} {vs ws : List Value} {n n' : Nat} {pile : List Nat} {pairs : List (Nat × Nat)} {q place : Nat} {kk : Int} {tv tq : Tok} {l5 : Addr} {o5 : Obj} {m m5 : Str → Option Value} {rest : List (Addr × Obj)} (hrest : restOf g L [pl, pr] h = rest)
    (hkk : kk = place) (F3 : Fr g L h m) (F5 : Fr g L h5 m5) (N5 : News g L h5 ((t, { cls := .type "tuple", data := .seq (List.toArray [.int q tq, .int kk tv]) }) :: (l5, o5) :: (pl, listOf (List.toArray vs) (n + 1)) :: (pr, listOf ((List.toArray ws).push (.ref t)) (n' + 1)) :: rest))
    {xs : Array Value} (e1 : h.get? pl = some (listOf xs n)) (e3 : h.get? pr = some (listOf (List.toArray ws) n')) (e2 : IntsAre vs (pile.map Nat.cast)) (e4 : PairsAre h ws pairs) :
    (∃ vs n, h5.get? pl = some (listOf (List.toArray vs) n) ∧ IntsAre vs (pile.map Nat.cast)) ∧ ∃ ws n, h5.get? pr = some (listOf (List.toArray ws) n) ∧ PairsAre h5 ws (pairs ++ [(q, place)]) := by
  subst hkk
  have st := tupStay_rest hrest F3 F5 N5 (fun p hp => .tail _ (.tail _ (.tail _ (.tail _ hp)))) e1 e3
  refine ⟨⟨vs, n + 1, (N5 _ (.tail _ (.tail _ (.head _)))).1, e2⟩, ws ++ [.ref t], n' + 1, ?_, (e4.stay st).snoc (N5 _ (.head _)).1⟩
  have := (N5 _ (.tail _ (.tail _ (.tail _ (.head _))))).1
  rw [List.push_toArray] at this
  exact this
theorem closedRun_len {rs ks : List Int} {b : Nat} : ∀ (i : Nat), (closedRun rs ks b i).1.length ≤ i ∧ (closedRun rs ks b i).2.length ≤ i
  | 0 => by simp [closedRun]
  | i + 1 => by
    obtain ⟨h1, h2⟩ := closedRun_len (rs := rs) (ks := ks) (b := b) i
    rw [closedRun_succ]
    unfold closedStep
    split
    · simp; omega
    · split
      · simp; omega
      · simp; omega
theorem closedStep_concat {rs ks : List Int} {pile : List Nat} {q place : Nat} {pairs : List (Nat × Nat)} :
    closedStep rs ks (pile ++ [q], pairs) place = if rs.getD q 0 ∈ ks ∧ rs.getD place 0 = rs.getD q 0 + 1 then (pile, pairs ++ [(q, place)]) else ((pile ++ [q]) ++ [place], pairs) := by
  unfold closedStep
  simp
inductive ClosedJ (rs ks : List Int) (b : Nat) (r kd pl pr : Addr) (i : Nat) (m : Str → Option Value) (h : Heap) : Prop
  | mk (vs ws : List Value) (n n' : Nat) (a1 : m (Str.ofString "row") = some (.ref r)) (a2 : m (Str.ofString "kinds") = some (.ref kd)) (a3 : m (Str.ofString "pile") = some (.ref pl)) (a4 : m (Str.ofString "pairs") = some (.ref pr))
    (e1 : h.get? pl = some (listOf (List.toArray vs) n)) (e2 : IntsAre vs ((closedRun rs ks b i).1.map Nat.cast)) (e3 : h.get? pr = some (listOf (List.toArray ws) n')) (e4 : PairsAre h ws (closedRun rs ks b i).2) : ClosedJ rs ks b r kd pl pr i m h
theorem ClosedJ.of {rs ks : List Int} {b i : Nat} {r kd pl pr : Addr} {m : Str → Option Value} {h : Heap} {st : List Nat × List (Nat × Nat)} (hs : closedRun rs ks b i = st)
    (q : (∃ vs n, h.get? pl = some (listOf (List.toArray vs) n) ∧ IntsAre vs (st.1.map Nat.cast)) ∧ ∃ ws n, h.get? pr = some (listOf (List.toArray ws) n) ∧ PairsAre h ws st.2)
    (a1 : m (Str.ofString "row") = some (.ref r)) (a2 : m (Str.ofString "kinds") = some (.ref kd)) (a3 : m (Str.ofString "pile") = some (.ref pl)) (a4 : m (Str.ofString "pairs") = some (.ref pr)) : ClosedJ rs ks b r kd pl pr i m h := by
  subst hs
  obtain ⟨⟨vs, n, e1, e2⟩, ws, n', e3, e4⟩ := q
  exact ⟨vs, ws, n, n', a1, a2, a3, a4, e1, e2, e3, e4⟩
theorem closed_spec {r kd : Addr} {rv kv : List Value} {rs ks : List Int} {b e : Nat} {tb te : Tok} {R : Result → Shared → Prop} {k : Nat} (C : Cx w mean mg mb (k + 1) A base outer s.heap)
    (hr : s.heap.IsList r rv.toArray) (hri : IntsAre rv rs) (hk : s.heap.IsList kd kv.toArray) (hki : IntsAre kv ks) (he : e ≤ rs.length) (hlen : rs.length ≤ 100) (hb : b ≤ 101)
    (hR : ∀ a h' tk, s.heap.StaysIn h' → s.heap.get? a = none → PairsAt h' a (closedF rs ks b e) → R (.ok (.ret (.ref a))) { s with heap := h', toks := tk }) :
    codeAny (MM w) A (.call (.ref 118) ⟨[.ref r, .int b tb, .int e te, .ref kd], []⟩) R s := by
  refine enter C (by k_is) (by k_is) (BindsTo.of_eq rfl) (locs rfl) rfl rfl rfl (by decide) ?_
  intro L h₁ tk F N C'
  have X := C.X
  have T := C.T
  have B := C.B
  k_steps
  refine Hold.of ?_
  refine' wpAny_For ?_ ?hs
  case hs => intro _; rfl
  k_steps
  refine Hold.of ?_
  rename_i pl _ _ _ _ pr _ hlp _ F1 N1 h2 _ _ _ _ hrange F2 N2 hst2
  have npl := N2 (pl, listOf #[] 0) (.tail _ (.head _))
  have npr := N2 (pr, listOf #[] 0) (.head _)
  refine for_range (g := s.heap) C'.hh hrange (small_up (by omega) (by omega)) (e - b) (rangeSize_up (by split <;> omega)) F2 [pl, pr] ?_
    (ClosedJ rs ks b r kd pl pr)
    ⟨[], [], 0, 0, rfl, rfl, rfl, rfl, npl.1, IntsAre.nil, npr.1, .nil⟩ ?_ ?_ ?_
  · intro x hx
    simp only [List.mem_cons, List.not_mem_nil, or_false] at hx
    rcases hx with rfl | rfl
    · exact Heap.lt_size npl.1
    · exact Heap.lt_size npr.1
  · rintro i m h h' ⟨vs, ws, n, n', a1, a2, a3, a4, e1, e2, e3, e4⟩ st
    exact ⟨vs, ws, n, n', a1, a2, a3, a4, st _ _ e1 rfl (fun q => by cases q), e2, st _ _ e3 rfl (fun q => by cases q), e4.stay (.of_soft st)⟩
  · rintro i tv m₁ h tk hi ⟨vs, ws, n, n', a1, a2, a3, a4, e1, e2, e3, e4⟩ F3
    refine wpAny_gen ?_
    intro K hK
    have hlt := closedRun_lt (rs := rs) (ks := ks) (b := b) i
    have hlen2 := closedRun_len (rs := rs) (ks := ks) (b := b) i
    have hsucc := closedRun_succ rs ks b i
    generalize closedRun rs ks b i = st at hlt hsucc e2 e4 hlen2
    obtain ⟨pile, pairs⟩ := st
    have N3 : News s.heap L h ((pl, listOf (List.toArray vs) n) :: (pr, listOf (List.toArray ws) n') :: restOf s.heap L [pl, pr] h) := by
      intro p hp
      rcases List.mem_cons.mp hp with rfl | hp
      · exact ⟨e1, npl.2.1, npl.2.2⟩
      · rcases List.mem_cons.mp hp with rfl | hp
        · exact ⟨e3, npr.2.1, npr.2.2⟩
        · exact rest_news p hp
    have hoff : OwnOff (restOf s.heap L [pl, pr] h) [pl, pr] := fun p hp b hb => rest_off b hb p hp
    generalize hrest : restOf s.heap L [pl, pr] h = rest at N3 hoff
    have hne : pl ≠ pr := Nat.ne_of_lt hlp
    have F3s := And.intro F3 trivial
    have hmem : ∀ p ∈ restOf s.heap L [pl, pr] h, p ∈ rest := fun p hp => hrest ▸ hp
    dsimp only at e2 e4 hlt hlen2
    have hvl := e2.length
    rw [List.length_map] at hvl
    have hwl := e4.length
    have hplace : ((b : Int) + (i : Int) * 1) = ((b + i : Nat) : Int) := by push_cast; omega
    have hbi : b + i < rs.length := by omega
    obtain ⟨tp, hrp⟩ := IntsAre.get hri (b + i) (rs.getD (b + i) 0) (by rw [List.getD_eq_getElem?_getD, List.getElem?_eq_getElem hbi]; rfl)
    have hR3 : h.IsList r rv.toArray := hr.at fun o e => F3.keep _ _ e
    have hK3 : h.IsList kd kv.toArray := hk.at fun o e => F3.keep _ _ e
    rcases List.eq_nil_or_concat pile with rfl | ⟨pile', q, rfl⟩
    · have evs : vs = [] := by cases e2; rfl
      subst evs
      k_steps
      refine Hold.of ?_
      rename Fr _ _ _ _ => F4
      rename News _ _ _ _ => N4
      refine ke_ne_ints (News.isList N4 (.tail _ (.head _))) (News.isList N4 (.head _)) IntsAre.nil IntsAre.nil (cx_units C') ?_
      rw [show (!decide (([] : List Int) = [])) = false from rfl]
      k_steps
      refine Hold.of ?_
      refine' append_K F4 N4 ?U ?_ ?z
      case U => k_upd
      case z => exact Nat.zero_le _
      intro h5 F5 N5
      k_steps
      refine hK _ _ ?_
      refine' TurnEnd.next ?a F5 N5 ?b ?c
      case a => exact F3s.1
      case b => exact fun p hp => .tail _ (.tail _ (.tail _ (hmem p hp)))
      case c =>
        exact .of (st := ([b + i], pairs)) (hsucc.trans rfl) (closed_push (pile := []) hrest hplace F3s.1 F5 N5 e1 e3 e2 e4) a1 a2 a3 a4
    · rw [List.concat_eq_append] at *
      rw [List.map_append] at e2
      obtain ⟨vs', tq, rfl, e2'⟩ := ints_snoc_inv e2
      have hq : q < b + i := hlt q (by simp)
      k_steps
      refine Hold.of ?_
      rename Fr _ _ _ _ => F4
      rename News _ _ _ _ => N4
      refine ke_ne_ints (News.isList N4 (.tail _ (.head _))) (News.isList N4 (.head _)) e2 IntsAre.nil (cx_units C') ?_
      rw [show (!decide (List.map Nat.cast pile' ++ List.map Nat.cast [q] = ([] : List Int))) = true from by simp]
      k_steps
      refine Hold.of ?_
      refine item_last (News.isList N4 (.tail _ (.head _))) ?_ rfl
      k_steps
      refine Hold.of ?_
      have hql : q < rs.length := by omega
      obtain ⟨tr, hrq⟩ := IntsAre.get hri q (rs.getD q 0) (by rw [List.getD_eq_getElem?_getD, List.getElem?_eq_getElem hql]; rfl)
      refine item_at (hr.at fun o e => F4.keep _ _ e) rfl hrq (by omega) ?_ rfl
      k_steps
      refine Hold.of ?_
      refine in_list_ints (hk.at fun o e => F4.keep _ _ e) hki ?_
      cases hin : ks.any (fun x => x == rs.getD q 0) with
      | false =>
        have hno : ¬ (rs.getD q 0 ∈ ks) := by
          intro hm
          rw [List.any_eq_false] at hin
          exact hin _ hm (by simp)
        have hst : closedStep rs ks (pile' ++ [q], pairs) (b + i) = ((pile' ++ [q]) ++ [b + i], pairs) := by
          rw [closedStep_concat, if_neg (fun h => hno h.1)]
        k_steps
        refine Hold.of ?_
        refine' append_K F4 N4 ?U ?_ ?z
        case U => k_upd
        case z => rw [List.size_toArray]; rw [hvl]; exact Nat.le_trans hlen2.1 (Nat.le_trans (Nat.le_of_lt hi) (by rw [sizeLine_eq]; omega))
        intro h5 F5 N5
        k_steps
        refine hK _ _ ?_
        refine' TurnEnd.next ?a F5 N5 ?b ?c
        case a => exact F3s.1
        case b => exact fun p hp => .tail _ (.tail _ (.tail _ (hmem p hp)))
        case c =>
          exact .of (hsucc.trans hst) (closed_push hrest hplace F3s.1 F5 N5 e1 e3 (by rw [List.map_append]; exact e2) e4) a1 a2 a3 a4
      | true =>
        have hyes : rs.getD q 0 ∈ ks := by
          obtain ⟨x, hx, e⟩ := List.any_eq_true.mp hin
          rw [← beq_iff_eq.mp e]; exact hx
        k_steps
        refine Hold.of ?_
        refine item_at (hr.at fun o e => F4.keep _ _ e) hplace hrp (by omega) ?_ rfl
        k_steps
        refine Hold.of ?_
        refine item_last (News.isList N4 (.tail _ (.head _))) ?_ rfl
        k_steps
        refine Hold.of ?_
        refine item_at (hr.at fun o e => F4.keep _ _ e) rfl hrq (by omega) ?_ rfl
        k_steps
        · rename rs.getD (b + i) 0 = rs.getD q 0 + 1 => heq
          refine Hold.of ?_
          refine' kl_pop F4 N4 (kpa_last _ _) ?Up ?zp ?_
          case Up => k_upd
          case zp => show (vs' ++ [Value.int q tq]).length ≤ sizeLine; rw [hvl]; exact Nat.le_trans hlen2.1 (Nat.le_trans (Nat.le_of_lt hi) (by rw [sizeLine_eq]; omega))
          intro h5 F5 N5
          k_steps
          refine Hold.of ?_
          rename Fr _ _ _ _ => F6
          rename News _ _ _ _ => N6
          refine' append_K F6 N6 ?Uq ?_ ?zq
          case Uq => k_upd
          case zq => rw [List.size_toArray]; rw [hwl]; exact Nat.le_trans hlen2.2 (Nat.le_trans (Nat.le_of_lt hi) (by rw [sizeLine_eq]; omega))
          intro h7 F7 N7
          k_steps
          refine hK _ _ ?_
          refine' TurnEnd.next ?a F7 N7 ?b ?c
          case a => exact F3s.1
          case b => exact fun p hp => .tail _ (.tail _ (.tail _ (.tail _ (hmem p hp))))
          case c =>
            exact .of (hsucc.trans (closedStep_concat.trans (if_pos ⟨hyes, heq⟩))) (closed_pop hrest hplace F3s.1 F7 N7 e1 e3 e2' e4) a1 a2 a3 a4
        · rename rs.getD (b + i) 0 ≠ rs.getD q 0 + 1 => hneq
          refine Hold.of ?_
          refine' append_K F4 N4 ?U ?_ ?z
          case U => k_upd
          case z => rw [List.size_toArray]; rw [hvl]; exact Nat.le_trans hlen2.1 (Nat.le_trans (Nat.le_of_lt hi) (by rw [sizeLine_eq]; omega))
          intro h5 F5 N5
          k_steps
          refine hK _ _ ?_
          refine' TurnEnd.next ?a F5 N5 ?b ?c
          case a => exact F3s.1
          case b => exact fun p hp => .tail _ (.tail _ (.tail _ (hmem p hp)))
          case c =>
            exact .of (hsucc.trans (closedStep_concat.trans (if_neg (fun h => hneq h.2)))) (closed_push hrest hplace F3s.1 F5 N5 e1 e3 (by rw [List.map_append]; exact e2) e4) a1 a2 a3 a4
  · rintro h tk m₁ ⟨vs, ws, n, n', a1, a2, a3, a4, e1, e2, e3, e4⟩ F3
    dsimp only
    k_steps
    exact hR pr _ _ F3.keep npr.2.2 ⟨ws, n', e3, e4⟩
end
section
local macro_rules | `(tactic| walk_at $s:str) => if ["exec For Name Attribute cons nil", "exec For Name Subscript cons nil", "exec For Name Name cons nil", "exec For Name Call cons nil", "exec For Tuple Call cons nil", "exec While", "pyIter ref", "eval ListComp", "call ref", "subscriptTail Name UnaryOp ref int", "subscriptTail Name Subscript ref int", "subscriptTail Name Name ref int", "subscriptTail Name UnaryOp Constant ref int", "subscriptTail Name Subscript Name UnaryOp ref int", "call builtin:list.append cons nil", "call builtin:list.pop cons nil", "compareOp NotEq ref ref", "compareOp Eq ref ref", "compareOp In int ref", "call builtin:str.join cons nil"].contains s.getString then `(tactic| (refine Hold.mk ?_)) else `(tactic| fail)
local macro_rules | `(tactic| walk_at "eval Name") => `(tactic| (k_here; k_dflt (refine' nameX_L ?F ?v ?_ ?a ?b; (case F => k_asm); (case a => rfl); (case b => rfl); (case v => assumption); k_whole)))
local macro_rules | `(tactic| walk_at "no such place") => `(tactic| fail)
local macro_rules | `(tactic| walk_at "no such place") => `(tactic| fail)
local macro_rules | `(tactic| walk_at "no such place") => `(tactic| fail)
local macro_rules | `(tactic| walk_at "no such place") => `(tactic| fail)
variable {w : World} {mean : ExcName → Option Value} {mg mb : Str → Option Value} {A : Around} {base : Heap} {outer : List Env} {s : Shared}
-- RText
/-- the text of the given signs -/
noncomputable def mkS (cs : List Nat) : Str := ⟨cs.toArray⟩
noncomputable def textOf (t : Str) (ps : List Nat) : Str := mkS (ps.map fun p => t.cps.getD p 0)
theorem textOf_length (t : Str) (ps : List Nat) : (textOf t ps).length = ps.length := by
  show (List.toArray _).size = _
  simp
theorem item_eq {t : Str} {p : Nat} (h : p < t.length) : Txt.item t (p : Nat) = mkS [t.cps.getD p 0] := by
  unfold Txt.item mkS
  have h' : p < t.cps.size := h
  have e : PySem.Txt.charAt t (p : Nat) = some (t.cps.getD p 0) := by
    unfold PySem.Txt.charAt seqIndex?
    have h1 : ¬ ((p : Int) < 0) := by omega
    simp only [h1, if_false]
    have h2 : ((decide (0 ≤ (p : Int)) && decide ((p : Int) < (t.length : Nat))) = true) := by
      simp only [Bool.and_eq_true, decide_eq_true_eq]; omega
    rw [if_pos h2]
    simp [Array.getD, h']
  rw [e]
  rfl
theorem fold_glue (cs : List Nat) : ∀ acc : Array Nat, (cs.map fun c => mkS [c]).foldl (fun acc p => acc ++ (Str.ofString "").cps ++ p.cps) acc = acc ++ cs.toArray := by
  have e0 : (Str.ofString "").cps = #[] := by decide +kernel
  rw [e0]
  induction cs with
  | nil => intro acc; simp
  | cons c r ih =>
    intro acc
    rw [List.map_cons, List.foldl_cons, ih]
    show acc ++ #[] ++ #[c] ++ r.toArray = _
    apply Array.ext'
    simp
theorem join_eq (cs : List Nat) : Txt.join (Str.ofString "") (cs.map fun c => mkS [c]) = mkS cs := by
  unfold Txt.join PySem.Builtin.Str.glued
  cases cs with
  | nil => rfl
  | cons c r =>
    show Str.mk ((r.map fun c => mkS [c]).foldl _ (mkS [c]).cps) = _
    rw [fold_glue]
    show Str.mk (#[c] ++ r.toArray) = Str.mk (c :: r).toArray
    congr 1
    apply Array.ext'
    simp
theorem join_textOf (t : Str) (ps : List Nat) : Txt.join (Str.ofString "") (ps.map fun p => mkS [t.cps.getD p 0]) = textOf t ps := by
  have := join_eq (ps.map fun p => t.cps.getD p 0)
  rw [List.map_map] at this
  exact this
theorem join_weight (t : Str) (ps : List Nat) : (((ps.map fun p => mkS [t.cps.getD p 0])).map (·.length)).sum = ps.length := by
  induction ps with
  | nil => rfl
  | cons p r ih =>
    rw [List.map_cons, List.map_cons, List.sum_cons, ih, List.length_cons]
    show 1 + r.length = _
    omega
end
section
local macro_rules | `(tactic| walk_at $s:str) => if ["exec For Name Attribute cons nil", "exec For Name Subscript cons nil", "exec For Name Name cons nil", "exec For Name Call cons nil", "exec For Tuple Call cons nil", "exec While", "pyIter ref", "eval ListComp", "call ref", "subscriptTail Name UnaryOp ref int", "subscriptTail Name Subscript ref int", "subscriptTail Name Name ref int", "subscriptTail Name UnaryOp Constant ref int", "subscriptTail Name Subscript Name UnaryOp ref int", "call builtin:list.append cons nil", "call builtin:list.pop cons nil", "compareOp NotEq ref ref", "compareOp Eq ref ref", "compareOp In int ref", "call builtin:str.join cons nil", "subscriptTail Name BinOp ref int", "subscriptTail Name Slice ref ref"].contains s.getString then `(tactic| (refine Hold.mk ?_)) else `(tactic| fail)
local macro_rules | `(tactic| walk_at "eval Name") => `(tactic| (k_here; k_dflt (refine' nameX_L ?F ?v ?_ ?a ?b; (case F => k_asm); (case a => rfl); (case b => rfl); (case v => assumption); k_whole)))
local macro_rules | `(tactic| walk_at "no such place") => `(tactic| fail)
local macro_rules | `(tactic| walk_at "no such place") => `(tactic| fail)
local macro_rules | `(tactic| walk_at "no such place") => `(tactic| fail)
local macro_rules | `(tactic| walk_at "no such place") => `(tactic| fail)
local macro_rules | `(tactic| walk_at "no such place") => `(tactic| fail)
variable {w : World} {mean : ExcName → Option Value} {mg mb : Str → Option Value} {A : Around} {base : Heap} {outer : List Env} {s : Shared}
-- RComp
theorem comp_strs : ∀ {vs ys : List Value} {ps : List Nat} {f : Nat → Str}, IntsAre vs (ps.map Nat.cast) → Paired (fun v y => ∃ (p : Nat) (tp ty : Tok), v = .int (p : Nat) tp ∧ y = .str (f p) ty) vs ys → StrsAre ys (ps.map f)
  | _, _, [], _, h, hp => by
    cases h
    cases hp
    exact .nil
  | _, _, p :: ps, f, h, hp => by
    cases h with
    | cons _ t h2 =>
      cases hp with
      | cons a b =>
        obtain ⟨p', tp, ty, e1, rfl⟩ := a
        have e3 := (Value.int.inj e1).1
        have : p = p' := by exact_mod_cast e3
        subst this
        exact .cons _ _ (comp_strs h2 b)
theorem text_comp {E : Value → Shared → Prop} {env : Env} {scope : Scope} {cl : List (Str × Addr)} {D c : Addr} {wv : List Value} {ps : List Nat} {t : Str} {tok : Tok} {oc : Obj} {p1 p2 p3 : Pos} {Q : Value → Shared → Prop}
    (hh : A.handled = none) (hl : s.heap.IsList D wv.toArray) (hi : IntsAre wv (ps.map Nat.cast)) (hlt : ∀ p ∈ ps, p < t.length) (ht : t.length ≤ 1000) (hps : ps.length ≤ 1000)
    (hc : s.heap.get? c = some oc) (hoc : oc.data = .cell (some (.str t tok))) (hcl : cl.lookup (Str.ofString "text") = some c)
    (hk : ∀ C, (compEnvC scope cl C env).scope.kind = .function) (hk1 : ∀ C, (compEnvC scope cl C env).kindOf (Str.ofString "text") = some .cell) (hk2 : ∀ C, (compEnvC scope cl C env).kindOf (Str.ofString "place") = some .local)
    (hQ : ∀ D' h' tk ys, s.heap.get? D' = none → h'.PlainList D' (List.toArray ys) → StrsAre ys (ps.map fun p => mkS [t.cps.getD p 0]) → s.heap.StaysIn h' → Q (.ref D') { s with heap := h', toks := tk }) :
    wpAny (MM w) A (pyIter (.ref D)) (fun it s₂ => ∃ I fp wr n P St, it = .ref I ∧ Walks pLaw.row.prog w A I fp wr n P St ∧ n ≤ sizeLine ∧ St 0 s₂.heap ∧ (∀ b ∈ fp, b < s₂.heap.objs.size) ∧
      QuietOnC pLaw.row.prog w A env scope cl (Str.ofString "place") [] (.Subscript (.Name (Str.ofString "text") p1) (.Name (Str.ofString "place") p2) p3) wr P (fun _ => true) (fun v y => ∃ (p : Nat) (tp ty : Tok), v = .int (p : Nat) tp ∧ y = .str (mkS [t.cps.getD p 0]) ty) s₂ ∧
      (∀ D h' tk ys (vs : List Value), s₂.heap.get? D = none → h'.IsList D ys → h'.PlainList D ys → vs.length = n → (∀ j v, vs[j]? = some v → P j v) → Paired (fun v y => ∃ (p : Nat) (tp ty : Tok), v = .int (p : Nat) tp ∧ y = .str (mkS [t.cps.getD p 0]) ty) (vs.filter fun _ => true) ys.toList →
        (∀ b o, b ∉ wr → s₂.heap.get? b = some o → h'.get? b = some o) → Q (.ref D) { s₂ with heap := h', toks := tk })) E s := by
  obtain ⟨ol, hol, _⟩ := id hl
  have hlt' : D < s.heap.objs.size := Heap.lt_size hol
  have hlen := hi.length
  rw [List.length_map] at hlen
  refine wpAny_pyIter_list hl ?_
  have Wl := Walks.list (prog := pLaw.row.prog) (w := w) hh s.heap.objs.size D (Nat.ne_of_lt hlt') wv.toArray
  refine ⟨_, _, _, _, _, _, rfl, Wl, by rw [List.size_toArray, hlen, sizeLine_eq]; omega, ⟨⟨_, Heap.get?_push_size _ rfl, rfl, rfl⟩, hl.at fun o e => Heap.get?_push_of_some _ e⟩, ?_, ⟨?_, ?_⟩, ?_⟩
  · intro b hb
    rw [Heap.size_push]
    rcases List.mem_cons.mp hb with rfl | hb
    · exact Nat.lt_succ_self _
    · rw [List.mem_singleton.mp hb]; exact Nat.lt_succ_of_lt hlt'
  · intro C i v s₃ m₃ E' _ _ _ _ _ _
    exact wpAny_pure ⟨rfl, _, _, rfl, fun _ _ e => e⟩
  · intro C i v s₃ m₃ E' _ hP _ hns hm hk' _
    have hvi : wv[i]? = some v := by simpa using hP
    obtain ⟨p, hpi, tp, rfl⟩ : ∃ p, ps[i]? = some p ∧ ∃ tp, v = .int (p : Nat) tp := by
      have hb : i < wv.length := by
        rcases Nat.lt_or_ge i wv.length with h | h
        · exact h
        · rw [List.getElem?_eq_none h] at hvi; cases hvi
      have hb' : i < ps.length := by omega
      obtain ⟨tp, e⟩ := hi.get i (ps[i] : Nat) (by rw [List.getElem?_map, List.getElem?_eq_getElem hb']; rfl)
      rw [hvi] at e
      exact ⟨ps[i], List.getElem?_eq_getElem hb', tp, Option.some.inj e⟩
    have hp := hlt p (List.mem_of_getElem? hpi)
    have hcc : s₃.heap.get? c = some oc := hk' c oc (by
      intro hm
      rw [List.mem_singleton.mp hm] at hc
      exact absurd (Heap.lt_size hc) (Nat.lt_irrefl _)) (Heap.get?_push_of_some _ hc)
    refine Subscript_ (wpAny_Name (wpAny_loadName_cell (hk C) (hk1 C) hcl ⟨oc, hcc, hoc⟩ ?_) (by decide))
    refine wpAny_Name (wpAny_loadName_local (hk C) (hk2 C) hns hm ?_) (by decide)
    refine item_str (fitsSsize_of (N := 9223372036854775808) (by omega) (by omega) (Int.le_refl _)) (by omega) (by omega) (fun _ => ?_)
    rw [item_eq hp]
    exact ⟨⟨p, tp, _, rfl, rfl⟩, _, _, rfl, fun _ _ e => e⟩
  · intro D' h' tk ys vs hD' _ hpl hlen' hP hpair hk'
    rw [List.size_toArray] at hlen'
    have evs : vs = wv := by
      apply List.ext_getElem?
      intro j
      rcases Nat.lt_or_ge j vs.length with h | h
      · have := hP j vs[j] (List.getElem?_eq_getElem h)
        rw [List.getElem?_eq_getElem h]
        simpa using this.symm
      · rw [List.getElem?_eq_none h, List.getElem?_eq_none (by omega)]
    subst evs
    rw [List.filter_eq_self.mpr (fun _ _ => rfl)] at hpair
    have hst : s.heap.StaysIn h' := fun b o e => hk' b o (by
      intro hm
      rw [List.mem_singleton.mp hm] at e
      exact absurd (Heap.lt_size e) (Nat.lt_irrefl _)) (Heap.get?_push_of_some _ e)
    have hD0 : s.heap.get? D' = none := by
      cases e : s.heap.get? D' with
      | none => rfl
      | some o => rw [Heap.get?_push_of_some _ e] at hD'; cases hD'
    exact hQ D' h' tk ys.toList hD0 (by simpa using hpl) (comp_strs (f := fun p => mkS [t.cps.getD p 0]) hi hpair) hst
theorem text_listcomp {E : Value → Shared → Prop} {env : Env} {scope : Scope} {cl : List (Str × Addr)} {c : Addr} {t : Str} {tok : Tok} {oc : Obj} {p1 p2 p3 px pos : Pos} {iter : PySem.Expr} {Q : Value → Shared → Prop}
    (hclos : closureFor scope env = pure cl) (hcell : ∀ y ∈ scope.names, y.2 ≠ .cell) (hkind : scope.kind = .function) (hnames : ∀ y ∈ scope.names, y.2 = .local → scope.names.lookup y.1 = some .local) (hx : scope.names.lookup (Str.ofString "place") = some .local)
    (hh : A.handled = none) (ht : t.length ≤ 1000) (hoc : oc.data = .cell (some (.str t tok))) (hcl : cl.lookup (Str.ofString "text") = some c)
    (hk : ∀ C, (compEnvC scope cl C env).scope.kind = .function) (hk1 : ∀ C, (compEnvC scope cl C env).kindOf (Str.ofString "text") = some .cell) (hk2 : ∀ C, (compEnvC scope cl C env).kindOf (Str.ofString "place") = some .local)
    (hs : ∀ x, foldedSetIterable iter env x = pure x)
    (h : wpAny (MM w) A (eval iter env) (fun xv s₁ => Hold (∃ D wv ps, xv = .ref D ∧ s₁.heap.IsList D (List.toArray wv) ∧ IntsAre wv (List.map Nat.cast ps) ∧ (∀ p ∈ ps, p < t.length) ∧ ps.length ≤ 1000 ∧ s₁.heap.get? c = some oc ∧
      ∀ D' h' tk ys, s₁.heap.get? D' = none → h'.PlainList D' (List.toArray ys) → StrsAre ys (ps.map fun p => mkS [t.cps.getD p 0]) → s₁.heap.StaysIn h' → Q (.ref D') { s₁ with heap := h', toks := tk })) E s) :
    wpAny (MM w) A (eval (.ListComp (.Subscript (.Name (Str.ofString "text") p1) (.Name (Str.ofString "place") p2) p3) [⟨.Name (Str.ofString "place") px, iter, [], 0⟩] scope pos) env) Q E s := by
  refine wpAny_ListComp_free (fun _ => true) (fun v y => ∃ (p : Nat) (tp ty : Tok), v = .int (p : Nat) tp ∧ y = .str (mkS [t.cps.getD p 0]) ty) hclos hcell hkind hnames hx (wpAny_mono h (fun xv s₁ h₁ => ?_) fun _ _ e => e) hs
  obtain ⟨D, wv, ps, rfl, hl, hi, hlt, hps, hc, hQ⟩ := h₁
  exact text_comp hh hl hi hlt ht hps hc hoc hcl hk hk1 hk2 hQ
theorem enterC {R : Result → Shared → Prop} {name qual : Str} {params : Arguments} {body : List Stmt} {scope : Scope} {dV kV doc pm cdv ct oc : Value} {an od : Option Addr} {osl : Array (Option Value)} {f : Addr} {args : Args} {binds : List (Str × Value)} {k : Nat}
    (C : Cx w mean mg mb (k + 1) A base outer s.heap)
    (ho : (pHeap w.params).lookup f = some ⟨oc, od, .func (fnOf name qual params body scope dV kV doc pm an cdv ct), osl⟩) (hcd : codeIn (pHeap w.params) cdv qual = true)
    (hbind : BindsTo s (fnOf name qual params body scope dV kV doc pm an cdv ct) args binds)
    (hkind : (binds.all fun y => scope.names.lookup y.1 == some .local || scope.names.lookup y.1 == some .cell) = true)
    (hnd : ((cellsFrom 0 scope.names []).map (·.1)).Nodup)
    (hco : scope.isCoroutine = false) (hgen : scope.isGenerator = false) (hk : scope.kind = .function)
    (h : ∀ L h₁ tk cells, Fr s.heap L h₁ (bindL (envOfC qual scope L f cdv).kindOf binds fun _ => none) → News s.heap L h₁ cells → CellsAre (bindC (envOfC qual scope L f cdv).kindOf binds fun _ => none) (cellsFrom (L + 1) scope.names []) cells →
      Cx w mean mg mb k (A.deeper (envOfC qual scope L f cdv)) base (envOfC qual scope L f cdv :: outer) h₁ →
      wpAny (MM w) (A.deeper (envOfC qual scope L f cdv)) (execs body (envOfC qual scope L f cdv))
        (fun fl s' => R (.ok (.ret (match fl with | .ret v => v | _ => .none))) s') (fun _ _ => False) { s with heap := h₁, toks := tk }) :
    codeAny (MM w) A (.call (.ref f) args) R s := by
  refine codeAny_call_function (fd := fnX name qual params body scope [] dV kV doc pm an cdv ct) (by have := C.dep; show A.depth < 1000; omega) (C.X _ _ ho) rfl hco hgen rfl (codeRec_of C.X hcd) (hbind _ _ _ _ ?_)
  refine wpAny_newFunctionEnv_cells hk (kindsX hkind _) fun env' he s' x => ?_
  subst he
  refine ⟨C.T.nolimit.keeps x.toInCall.keep, codeAny_func ?_⟩
  obtain ⟨h₁, tk, rfl, _⟩ := x.done
  have hk₁ := x.toInCall.keep
  obtain ⟨cells, NC, Y⟩ := Cl.news (h₀ := s.heap) (Nat.le_refl _) fun n c hm => ⟨x.cell n c (lookup_of_mem_nodup (cellsFrom_names scope.names 0 (s.heap.objs.size + 1) [] [] rfl ▸ hnd) hm), x.above n c hm⟩
  have F : Fr s.heap s.heap.objs.size h₁ (bindL (envOfC qual scope s.heap.objs.size f cdv).kindOf binds fun _ => none) := ⟨x.toInCall.ns, hk₁, Nat.le_refl _⟩
  exact wpAny_mono (h s.heap.objs.size h₁ tk cells F NC Y (C.deeper F rfl hk)) (fun _ _ x => x) fun _ _ x => x.elim
theorem while_good {Q : Flow → Shared → Prop} {E : Value → Shared → Prop} {env : Env} {test : PySem.Expr} {body : List Stmt} {pos : Pos} {g : Heap} (J : Nat → (Str → Option Value) → Heap → Prop) (n : Nat) {m : Str → Option Value} (F : Fr g env.locals s.heap m) (h0 : J n m s.heap)
    (turn : ∀ n m₁ h tk, J n m₁ h → Fr g env.locals h m₁ → wpAny (MM w) A (isTrue test env (eval test env)) (fun b s₂ =>
        if b then wpAny (MM w) A (execs body env) (fun f s₃ => match f with
            | .ret v => Q (.ret v) s₃
            | .brk => Q .next s₃
            | _ => Hold (∃ h' tk' m' k, k < n ∧ s₃ = { s with heap := h', toks := tk' } ∧ Fr g env.locals h' m' ∧ J k m' h')) (fun _ _ => False) s₂
        else Q .next s₂) (fun _ _ => False) { s with heap := h, toks := tk }) :
    wpAny (MM w) A (exec (.While test body [] pos) env) Q E s := by
  refine wpAny_While (codeAny_whileLoop (fun k s' => ∃ h' tk' m', s' = { s with heap := h', toks := tk' } ∧ Fr g env.locals h' m' ∧ J k m' h') ?_ n ⟨s.heap, s.toks, m, rfl, F, h0⟩)
  rintro k s' ⟨h', tk', m', rfl, F', J'⟩
  refine wpAny_mono (turn k m' h' tk' J' F') (fun b s₂ hb => ?_) fun _ _ e => e.elim
  cases b with
  | false => exact wpAny_execs_nil hb
  | true =>
    refine wpAny_mono hb (fun f s₃ h₃ => ?_) fun _ _ e => e.elim
    have fin : (∃ h' tk' m' j, j < k ∧ s₃ = { s with heap := h', toks := tk' } ∧ Fr g env.locals h' m' ∧ J j m' h') → ∃ m, m < k ∧ ∃ h' tk' m', s₃ = { s with heap := h', toks := tk' } ∧ Fr g env.locals h' m' ∧ J m m' h' := by
      rintro ⟨h', tk', m', j, hj, e, F', J'⟩
      exact ⟨j, hj, h', tk', m', e, F', J'⟩
    cases f with
    | ret v => exact h₃
    | brk => exact h₃
    | cont => exact fin h₃
    | next => exact fin h₃
theorem slice_to {E : Value → Shared → Prop} {h₀ : Heap} {L l : Addr} {m : Str → Option Value} {news : List (Addr × Obj)} {value slice : PySem.Expr} {vs : List Value} {ns : List Int} {k : Nat} {kk : Int} {u : Tok} {Q : Value → Shared → Prop}
    (F : Fr h₀ L s.heap m) (N : News h₀ L s.heap news) (hl : s.heap.IsList l vs.toArray) (hi' : IntsAre vs ns) (hkk : kk = k) (hz : ns.length ≤ 1000)
    (h : ∀ D ws h', Fr h₀ L h' m → News h₀ L h' ((D, listOf (List.toArray ws) 0) :: news) → (∀ p ∈ news, p.1 < D) → IntsAre ws (ns.take k) → Q (.ref D) { s with heap := h' })
    (hs : subscripted slice false (.ref l) (.ref s.heap.objs.size) = operate [.ref s.heap.objs.size, .ref l] (getItem (.ref l) (.ref s.heap.objs.size))) (ht : ∀ r, letTemporaryGo value (.ref l) r = pure ()) :
    wpAny (MM w) A (subscriptTail value slice (.ref l) (.ref s.heap.objs.size)) Q E { s with heap := s.heap.push { cls := .type "slice", data := .fields #[.none, .int kk u, .none] } } := by
  subst hkk
  refine kmk_slice_ints F N hl IsPart.none (IsPart.int _ _) hi' (kmk_upto hi' (by omega)) rfl (fun D ws h' F' N' l1 hI _ _ => ?_) hs ht (by rw [List.size_toArray, hi'.length, sizeLine_eq]; omega)
  refine h D ws h' F' N' l1 ?_
  have e : ((k : Int)).toNat = k := by omega
  rw [e] at hI
  exact hI
theorem slice_from {E : Value → Shared → Prop} {h₀ : Heap} {L l : Addr} {m : Str → Option Value} {news : List (Addr × Obj)} {value slice : PySem.Expr} {vs : List Value} {ns : List Int} {k : Nat} {kk : Int} {u : Tok} {Q : Value → Shared → Prop}
    (F : Fr h₀ L s.heap m) (N : News h₀ L s.heap news) (hl : s.heap.IsList l vs.toArray) (hi' : IntsAre vs ns) (hkk : kk = k) (hz : ns.length ≤ 1000)
    (h : ∀ D ws h', Fr h₀ L h' m → News h₀ L h' ((D, listOf (List.toArray ws) 0) :: news) → (∀ p ∈ news, p.1 < D) → IntsAre ws (ns.drop k) → Q (.ref D) { s with heap := h' })
    (hs : subscripted slice false (.ref l) (.ref s.heap.objs.size) = operate [.ref s.heap.objs.size, .ref l] (getItem (.ref l) (.ref s.heap.objs.size))) (ht : ∀ r, letTemporaryGo value (.ref l) r = pure ()) :
    wpAny (MM w) A (subscriptTail value slice (.ref l) (.ref s.heap.objs.size)) Q E { s with heap := s.heap.push { cls := .type "slice", data := .fields #[.int kk u, .none, .none] } } := by
  subst hkk
  refine kmk_slice_ints F N hl (IsPart.int _ _) IsPart.none hi' (kmk_from hi' (by omega)) rfl (fun D ws h' F' N' l1 hI _ _ => ?_) hs ht (by rw [List.size_toArray, hi'.length, sizeLine_eq]; omega)
  refine h D ws h' F' N' l1 ?_
  have e : ((k : Int)).toNat = k := by omega
  rw [e] at hI
  exact hI
-- RFronts3
noncomputable def frontsF (ok : List Nat → Bool) : Nat → List Nat → Nat → List (Nat × Nat) → Option (List (Nat × Nat))
  | 0, _, _, _ => none
  | f + 1, left, size, pairs =>
    if size ≤ left.length then
      if ok (left.take size) = true then frontsF ok f left (size + 1) pairs
      else if 2 ≤ size then frontsF ok f (left.take (size - 2) ++ left.drop size) (size - 1) (pairs ++ [(left.getD (size - 2) 0, left.getD (size - 1) 0)])
      else none
    else some pairs
inductive FrontsJ (g : Heap) (L : Addr) (t : Str) (ok : List Nat → Bool) (res : List (Nat × Nat)) (x pr L1 : Addr) (oc : Obj) (k : Nat) (m : Str → Option Value) (h : Heap) : Prop
  | mk (left : List Nat) (size : Nat) (pairs : List (Nat × Nat)) (l : Addr) (lv : List Value) (nl : Nat) (ts : Tok) (ws : List Value) (n : Nat) (j1 : frontsF ok k left size pairs = some res) (j2 : ∀ p ∈ left, p < t.length) (j3 : 2 * pairs.length + left.length ≤ 20) (j4 : size ≤ left.length + 1)
    (mr : m (Str.ofString "record") = some (.ref x)) (ml : m (Str.ofString "left") = some (.ref l)) (ms : m (Str.ofString "size") = some (.int (size : Nat) ts)) (mp : m (Str.ofString "pairs") = some (.ref pr))
    (e1 : h.get? l = some (listOf (List.toArray lv) nl)) (e2 : IntsAre lv (left.map Nat.cast)) (e3 : h.get? pr = some (listOf (List.toArray ws) n)) (e4 : PairsAre h ws pairs) (e5 : h.get? L1 = some oc) (a : l ≠ pr) (b : l ≠ L) (c : g.get? l = none) : FrontsJ g L t ok res x pr L1 oc k m h
theorem while_gen {Q : Flow → Shared → Prop} {E : Value → Shared → Prop} {env : Env} {test : PySem.Expr} {body : List Stmt} {pos : Pos} {g : Heap} (J : Nat → (Str → Option Value) → Heap → Prop) (n : Nat) {m : Str → Option Value} (F : Fr g env.locals s.heap m) (h0 : J n m s.heap)
    (turn : ∀ n m₁ h tk (K : Flow → Shared → Prop) (D : Shared → Prop), (∀ v s₃, Q (.ret v) s₃ → K (.ret v) s₃) → (∀ h' tk' m' k, k < n → Fr g env.locals h' m' → J k m' h' → K .next { s with heap := h', toks := tk' }) → (∀ s₃, Q .next s₃ → D s₃) →
      J n m₁ h → Fr g env.locals h m₁ → wpAny (MM w) A (isTrue test env (eval test env)) (fun b s₂ => if b then wpAny (MM w) A (execs body env) K (fun _ _ => False) s₂ else D s₂) (fun _ _ => False) { s with heap := h, toks := tk }) :
    wpAny (MM w) A (exec (.While test body [] pos) env) Q E s :=
  while_good J n F h0 fun n m₁ h tk j f => turn n m₁ h tk _ _ (fun _ _ x => x) (fun h' tk' m' k a b c => ⟨h', tk', m', k, a, rfl, b, c⟩) (fun _ x => x) j f
theorem rangeInts_zero (n : Nat) : rangeInts 0 1 n = (List.range n).map Nat.cast := by
  unfold rangeInts
  refine List.map_congr_left fun i _ => ?_
  simp
theorem fronts_ok {ok : List Nat → Bool} {res : List (Nat × Nat)} {k size : Nat} {left : List Nat} {pairs : List (Nat × Nat)} (h : frontsF ok k left size pairs = some res) (hs : size ≤ left.length) (ho : ok (left.take size) = true) : frontsF ok (k - 1) left (size + 1) pairs = some res ∧ 0 < k := by
  cases k with
  | zero => cases h
  | succ k =>
    unfold frontsF at h
    rw [if_pos hs, if_pos ho] at h
    exact ⟨h, by omega⟩
theorem fronts_cut {ok : List Nat → Bool} {res : List (Nat × Nat)} {k size : Nat} {left : List Nat} {pairs : List (Nat × Nat)} (h : frontsF ok k left size pairs = some res) (hs : size ≤ left.length) (ho : ok (left.take size) = false) (h2 : 2 ≤ size) :
    frontsF ok (k - 1) (left.take (size - 2) ++ left.drop size) (size - 1) (pairs ++ [(left.getD (size - 2) 0, left.getD (size - 1) 0)]) = some res ∧ 0 < k := by
  cases k with
  | zero => cases h
  | succ k =>
    unfold frontsF at h
    rw [if_pos hs, if_neg (by rw [ho]; exact Bool.false_ne_true), if_pos h2] at h
    exact ⟨h, by omega⟩
theorem fronts_none {ok : List Nat → Bool} {res : List (Nat × Nat)} {k size : Nat} {left : List Nat} {pairs : List (Nat × Nat)} (hs : size ≤ left.length) (ho : ok (left.take size) = false) (h2 : ¬ 2 ≤ size) : ¬ frontsF ok k left size pairs = some res := by
  intro h
  cases k with
  | zero => cases h
  | succ k =>
    unfold frontsF at h
    rw [if_pos hs, if_neg (by rw [ho]; exact Bool.false_ne_true), if_neg h2] at h
    cases h
theorem fronts_done {ok : List Nat → Bool} {res : List (Nat × Nat)} {k size : Nat} {left : List Nat} {pairs : List (Nat × Nat)} (h : frontsF ok k left size pairs = some res) (hs : ¬ size ≤ left.length) : res = pairs := by
  cases k with
  | zero => cases h
  | succ k =>
    unfold frontsF at h
    rw [if_neg hs] at h
    exact (Option.some.inj h).symm
theorem fronts_stay {g h h5 : Heap} {L pr c l : Addr} {xs ys : Array Value} {n n' : Nat} {oc : Obj} {m m5 : Str → Option Value} {news rest : List (Addr × Obj)} (hrest : restOf g L [pr, c, l] h = rest) (F3 : Fr g L h m) (F5 : Fr g L h5 m5) (N5 : News g L h5 news) (hs : ∀ p ∈ rest, p ∈ news)
    (e1 : h.get? l = some (listOf xs n)) (e3 : h.get? pr = some (listOf ys n')) (e5 : h.get? c = some oc) (hoc : ∀ xs n, oc.data ≠ .seq xs n) : TupStay h h5 := by
  refine .of_off (off_of_rest F3 F5 N5 (by rw [hrest]; exact hs)) fun b hb o e c d => ?_
  rcases List.mem_cons.mp hb with rfl | hb
  · exact ns_notTup F3.ns e d
  · rcases List.mem_cons.mp hb with rfl | hb
    · exact list_notTup e3 e c
    · rcases List.mem_cons.mp hb with rfl | hb
      · rw [e5] at e
        cases e
        obtain ⟨xs, k, hd⟩ := d
        exact hoc xs k hd
      · rw [List.mem_singleton.mp hb] at e
        exact list_notTup e1 e c
theorem ints_getD {left : List Nat} {k : Nat} (h : k < left.length) : (left.map (Nat.cast : Nat → Int))[k]? = some ((left.getD k 0 : Nat) : Int) := by
  rw [List.getElem?_map, List.getElem?_eq_getElem h, List.getD_eq_getElem?_getD, List.getElem?_eq_getElem h]
  rfl
theorem front_ar1 {p n s : Nat} (h2 : 2 ≤ s) (hs : s ≤ n) (h : 2 * p + n ≤ 20) : 2 * (p + 1) + (min (s - 2) n + (n - s)) ≤ 20 := by
  rw [Nat.min_eq_left (Nat.le_trans (Nat.sub_le _ _) hs)]
  omega
theorem front_ar2 {n s : Nat} (h2 : 2 ≤ s) (hs : s ≤ n) : s - 1 ≤ min (s - 2) n + (n - s) + 1 := by
  rw [Nat.min_eq_left (Nat.le_trans (Nat.sub_le _ _) hs)]
  omega
theorem front_ar3 {n s : Nat} (h2 : 2 ≤ s) (hs : s ≤ n) : s - 2 < n := Nat.lt_of_lt_of_le (Nat.sub_lt (Nat.lt_of_lt_of_le (by decide) h2) (by decide)) hs
theorem front_ar4 {n s : Nat} (h2 : 2 ≤ s) (hs : s ≤ n) : s - 1 < n := Nat.lt_of_lt_of_le (Nat.sub_lt (Nat.lt_of_lt_of_le (by decide) h2) (by decide)) hs
theorem fronts_spec {x : Addr} {rules : List (List Str × Bool)} {t : Str} {tok : Tok} {R : Result → Shared → Prop} {k fuel : Nat} {res : List (Nat × Nat)} (C : Cx w mean mg mb (k + 3) A base outer s.heap)
    (hrec : RecAt s.heap x rules) (ht : t.length ≤ 20) (hF : frontsF (fun ps => allowF rules (textOf t ps)) fuel (List.range t.length) 0 [] = some res)
    (hR : ∀ a h' tk, s.heap.StaysIn h' → s.heap.get? a = none → PairsAt h' a res → R (.ok (.ret (.ref a))) { s with heap := h', toks := tk }) :
    codeAny (MM w) A (.call (.ref 106) ⟨[.ref x, .str t tok], []⟩) R s := by
  obtain ⟨dx, es, n, rl, vs, I, hrl, hal0, hl, hrules⟩ := id hrec
  refine enterC C (by k_is) (by k_is) (BindsTo.of_eq rfl) rfl (by decide +kernel) rfl rfl rfl ?_
  intro L h₁ tk cells F N Y C'
  obtain ⟨oc, rfl, hoc⟩ := CellsAre.one Y
  have hoc' : oc.data = .cell (some (.str t tok)) := hoc
  clear Y hoc
  have X := C.X
  have T := C.T
  have B := C.B
  k_steps
  rename_i h2 _ _ _ _ hrange F2 N2 hst2
  refine list_rangeD (n := t.length) C'.hh F2 N2 hrange (small_up (a := 0) (by omega) (by omega)) (rangeSize_up (by split <;> omega)) (by omega) ?_
  intro h3 tk3 ys F3 N3 hst3 hnew hlist hplain hcar
  have hints : IntsAre ys ((List.range t.length).map Nat.cast) := by
    have := IntsAre.ofCarried hcar
    rwa [rangeInts_zero] at this
  obtain ⟨⟨cl, hcl⟩, hoffl⟩ := hplain
  have N3' : News s.heap L h3 ((h2.objs.size, listOf ys.toArray cl) :: [(L + 1, oc)]) := by
    intro p hp
    rcases List.mem_cons.mp hp with rfl | hp
    · exact ⟨hcl, Nat.ne_of_gt F2.ns.lt, hnew⟩
    · exact N3 p hp
  clear N3 hst3 hlist hcar hcl hoffl hnew hst2 hrange
  k_steps
  refine Hold.of ?_
  rename Fr _ _ _ _ => F4
  rename News _ _ _ _ => N4
  rename_i pr _ l1 _ _
  have npr := N4 _ (.head _)
  have nl := N4 _ (.tail _ (.head _))
  have nc := N4 _ (.tail _ (.tail _ (.head _)))
  refine while_gen (g := s.heap) (FrontsJ s.heap L t (fun ps => allowF rules (textOf t ps)) res x pr (L + 1) oc) fuel F4 ?_ ?_
  · exact ⟨List.range t.length, 0, [], _, ys, cl, _, [], 0, hF, fun p hp => List.mem_range.mp hp, by simpa using ht, by simp, rfl, rfl, rfl, rfl, nl.1, hints, npr.1, .nil, nc.1, Nat.ne_of_lt l1.1, nl.2.1, nl.2.2⟩
  · rintro kk m₁ h tk K D hKr hKn hD ⟨left, size, pairs, l, lv, nl, ts, ws, n, j1, j2, j3, j4, mr, ml, ms, mp, e1, e2, e3, e4, e5, hlpr, hlL, hlg⟩ F5
    have hlc : l ≠ L + 1 := by
      rintro rfl
      rw [e1] at e5
      cases e5
      cases hoc'
    have hprc : pr ≠ L + 1 := by
      rintro rfl
      rw [e3] at e5
      cases e5
      cases hoc'
    have N5 : News s.heap L h ((pr, listOf (List.toArray ws) n) :: (L + 1, oc) :: (l, listOf (List.toArray lv) nl) :: restOf s.heap L [pr, L + 1, l] h) := by
      intro p hp
      rcases List.mem_cons.mp hp with rfl | hp
      · exact ⟨e3, npr.2⟩
      · rcases List.mem_cons.mp hp with rfl | hp
        · exact ⟨e5, nc.2⟩
        · rcases List.mem_cons.mp hp with rfl | hp
          · exact ⟨e1, hlL, hlg⟩
          · exact rest_news p hp
    have hoff : OwnOff (restOf s.heap L [pr, L + 1, l] h) [pr, L + 1, l] := fun p hp b hb => rest_off b hb p hp
    generalize hrest : restOf s.heap L [pr, L + 1, l] h = rest at N5 hoff
    have hmem : ∀ p ∈ restOf s.heap L [pr, L + 1, l] h, p ∈ rest := fun p hp => hrest ▸ hp
    have F5s := And.intro F5 trivial
    have hlen := e2.length
    rw [List.length_map] at hlen
    have h20 : left.length ≤ 20 := Nat.le_trans (Nat.le_add_left _ _) j3
    k_steps
    · rename (size : Int) ≤ _ => hsz
      rw [List.length_map] at hsz
      have hsz' : size ≤ left.length := by omega
      refine Hold.of ?_
      refine' text_listcomp (t := t) (tok := tok) (oc := oc) (c := L + 1) ?clos ?cell ?kind ?names ?hx ?b1 ?a2 ?b5 ?a4 ?a5 ?a6 ?a7 ?hs ?_
      case clos => exact rfl
      case cell => decide
      case kind => exact rfl
      case names => decide
      case hx => exact rfl
      case hs => intro _; rfl
      case b1 => exact C'.hh
      case a2 => first | exact Nat.le_trans ht (by decide) | omega
      case b5 => exact hoc'
      case a4 => exact rfl
      case a5 => exact fun _ => rfl
      case a6 => exact fun _ => rfl
      case a7 => exact fun _ => rfl
      k_steps
      refine Hold.of ?_
      rename Fr _ _ _ _ => F6
      rename News _ _ _ _ => N6
      refine' slice_to (k := size) F6 N6 (News.isList N6 (.tail _ (.tail _ (.head _)))) e2 rfl ?z1 ?_ ?s1 ?t1
      case z1 => rw [List.length_map]; first | exact Nat.le_trans h20 (by decide) | omega
      case s1 => exact rfl
      case t1 => intro _; rfl
      clear F6 N6
      intro D ws' h6 F6 N6 l6 hI7
      rw [← List.map_take] at hI7
      k_lt l6
      k_steps
      refine Hold.of ⟨D, ws', left.take size, rfl, News.isList N6 (.head _), hI7, fun p hp => j2 p (List.mem_of_mem_take hp), by rw [List.length_take]; first | exact Nat.le_trans (Nat.min_le_right _ _) (Nat.le_trans h20 (by decide)) | omega, (N6 _ (.tail _ (.tail _ (.head _)))).1, ?_⟩
      intro D7 h7 tk7 ys7 hD7 hpl7 hstr7 st7
      have F7 := Fr.keeps F6 st7
      have N7 := News.keeps N6 st7
      clear F6 N6
      k_steps
      refine Hold.of ?_
      refine join_listW hpl7.isList hstr7 (by decide +kernel) (by rw [join_weight, List.length_map, List.length_take]; first | exact Nat.le_trans (Nat.add_le_add (Nat.min_le_right _ _) (Nat.min_le_right _ _)) (Nat.le_trans (Nat.add_le_add h20 h20) (by decide)) | omega) ?_
      intro t8 k8
      rw [join_textOf]
      k_steps
      refine Hold.of ?_
      refine wpAny_call (allow_spec (C.deeper F7 rfl rfl) (hrec.stays F7.keep) (by rw [textOf_length, List.length_take]; first | exact Nat.le_trans (Nat.min_le_right _ _) (Nat.le_trans h20 (by decide)) | omega) ?_)
      intro h9 tk9 st9
      have F9 := Fr.keeps F7 st9
      have N9 := News.keeps N7 st9
      clear F7 N7
      dsimp only
      cases hok : allowF rules (textOf t (left.take size)) with
      | true =>
        k_steps
        rename Fr _ _ _ _ => Fe
        rename News _ _ _ _ => Ne
        have hj : frontsF (fun ps => allowF rules (textOf t ps)) (kk - 1) left (size + 1) pairs = some res ∧ 0 < kk := fronts_ok j1 hsz' hok
        have st : TupStay h _ := fronts_stay hrest F5s.1 Fe Ne (fun p hp => .tail _ (.tail _ (.tail _ (.tail _ hp)))) e1 e3 e5 (by rw [hoc']; exact fun _ _ e => nomatch e)
        refine hKn _ _ _ (kk - 1) (Nat.sub_lt hj.2 Nat.one_pos) Fe ⟨left, size + 1, pairs, l, lv, nl, _, ws, n, hj.1, j2, j3, Nat.succ_le_succ hsz', mr, ml, rfl, mp, (Ne _ (.tail _ (.tail _ (.tail _ (.head _))))).1, e2, (Ne _ (.tail _ (.head _))).1, e4.stay st, (Ne _ (.tail _ (.tail _ (.head _)))).1, hlpr, hlL, hlg⟩
      | false =>
        k_steps
        · rename 2 ≤ (size : Int) => h2s
          have h2s' : 2 ≤ size := by omega
          refine Hold.of ?_
          obtain ⟨ta, ha⟩ := IntsAre.get e2 (size - 2) ((left.getD (size - 2) 0 : Nat) : Int) (ints_getD (front_ar3 h2s' hsz'))
          obtain ⟨tb, hb⟩ := IntsAre.get e2 (size - 1) ((left.getD (size - 1) 0 : Nat) : Int) (ints_getD (front_ar4 h2s' hsz'))
          rename News _ _ _ _ => Nq
          refine' item_at (k := size - 2) (News.isList Nq (.tail _ (.tail _ (.tail _ (.head _))))) ?i1 ha ?i2 ?_ ?i3
          case i1 => omega
          case i2 => first | exact Nat.lt_of_le_of_lt (Nat.le_trans (Nat.sub_le _ _) (Nat.le_trans hsz' h20)) (by decide) | omega
          case i3 => exact rfl
          k_steps
          refine Hold.of ?_
          rename News _ _ _ _ => Nq
          refine' item_at (k := size - 1) (News.isList Nq (.tail _ (.tail _ (.tail _ (.head _))))) ?i1 hb ?i2 ?_ ?i3
          case i1 => omega
          case i2 => first | exact Nat.lt_of_le_of_lt (Nat.le_trans (Nat.sub_le _ _) (Nat.le_trans hsz' h20)) (by decide) | omega
          case i3 => exact rfl
          have hprlt := ltN (Heap.lt_size (Nq _ (.tail _ (.head _))).1)
          dsimp only at hprlt
          k_steps
          refine Hold.of ?_
          rename Fr _ _ _ _ => Fz
          rename News _ _ _ _ => Nz
          have hwl := e4.length
          refine' append_K Fz Nz ?Uq ?_ ?zq
          case Uq => k_upd
          case zq => rw [List.size_toArray, hwl, sizeLine_eq]; omega
          intro hA FA NA
          clear Nz Fz
          k_steps
          refine Hold.of ?_
          rename Fr _ _ _ _ => Fz
          rename News _ _ _ _ => Nz
          refine' slice_to (k := size - 2) Fz Nz (News.isList Nz (.tail _ (.tail _ (.tail _ (.tail _ (.head _)))))) e2 ?k2 ?z2 ?_ ?s2 ?t2
          case k2 => omega
          case z2 => rw [List.length_map]; first | exact Nat.le_trans h20 (by decide) | omega
          case s2 => exact rfl
          case t2 => intro _; rfl
          clear Fz Nz
          intro D2 ws2 h22 F22 N22 l22 hI22
          k_lt l22
          k_steps
          refine Hold.of ?_
          rename Fr _ _ _ _ => Fz
          rename News _ _ _ _ => Nz
          refine' slice_from (k := size) Fz Nz (News.isList Nz (.tail _ (.tail _ (.tail _ (.tail _ (.tail _ (.head _))))))) e2 ?k3 ?z3 ?_ ?s3 ?t3
          case k3 => rfl
          case z3 => rw [List.length_map]; first | exact Nat.le_trans h20 (by decide) | omega
          case s3 => exact rfl
          case t3 => intro _; rfl
          clear Fz Nz
          intro D3 ws3 h33 F33 N33 l33 hI33
          k_lt l33
          k_steps
          rename Fr _ _ _ _ => Fe
          rename News _ _ _ _ => Ne
          rename IntsAre _ (List.take _ _ ++ List.drop _ _) => hIe
          rename_i D9 _ _ l1e _ _
          have hD9 : D9 ≠ pr := Nat.ne_of_gt l1e.2.2.2.2.1
          have hj := fronts_cut j1 hsz' hok h2s'
          have st : TupStay h _ := fronts_stay hrest F5s.1 Fe Ne (fun p hp => .tail _ (.tail _ (.tail _ (.tail _ (.tail _ (.tail _ (.tail _ (.tail _ hp)))))))) e1 e3 e5 (by rw [hoc']; exact fun _ _ e => nomatch e)
          rw [← List.map_take, ← List.map_drop, ← List.map_append] at hIe
          have hsz1 : ((size : Int) - 1) = ((size - 1 : Nat) : Int) := by omega
          have hpush := (Ne _ (.tail _ (.tail _ (.tail _ (.tail _ (.tail _ (.head _))))))).1
          rw [List.push_toArray] at hpush
          refine hKn _ _ _ (kk - 1) (Nat.sub_lt hj.2 Nat.one_pos) Fe ⟨left.take (size - 2) ++ left.drop size, size - 1, pairs ++ [(left.getD (size - 2) 0, left.getD (size - 1) 0)], _, _, 0, _, ws ++ [.ref _], n + 1, hj.1, ?_, ?_, ?_, mr, rfl, by rw [← hsz1]; rfl, mp, (Ne _ (.head _)).1, hIe, hpush, (e4.stay st).snoc (Ne _ (.tail _ (.tail _ (.tail _ (.head _))))).1, (Ne _ (.tail _ (.tail _ (.tail _ (.tail _ (.tail _ (.tail _ (.head _)))))))).1, hD9, (Ne _ (.head _)).2.1, (Ne _ (.head _)).2.2⟩
          · intro p hp
            rcases List.mem_append.mp hp with hp | hp
            · exact j2 p (List.mem_of_mem_take hp)
            · exact j2 p (List.mem_of_mem_drop hp)
          · simp only [List.length_append, List.length_take, List.length_drop, List.length_singleton]; exact front_ar1 h2s' hsz' j3
          · simp only [List.length_append, List.length_take, List.length_drop]; exact front_ar2 h2s' hsz'
        · rename ¬ (2 ≤ (size : Int)) => hno
          exact absurd j1 (fronts_none hsz' hok (by omega))
    · rename ¬ ((size : Int) ≤ _) => hsz
      rw [List.length_map] at hsz
      have hres := fronts_done j1 (by omega)
      subst hres
      refine hD _ ?_
      dsimp only
      k_steps
      exact hR pr _ _ F5s.1.keep npr.2.2 ⟨ws, n, e3, e4⟩
-- REnds3
noncomputable def endsF (ok : List Nat → Bool) : Nat → List Nat → List (Nat × Nat) → Option (List (Nat × Nat))
  | 0, _, pairs => some pairs
  | start + 1, left, pairs =>
    if ok (left.drop start) = true then endsF ok start left pairs
    else if start + 2 ≤ left.length then endsF ok start (left.take start ++ left.drop (start + 2)) (pairs ++ [(left.getD start 0, left.getD (start + 1) 0)])
    else none
inductive EndsJ (g : Heap) (L : Addr) (t : Str) (ok : List Nat → Bool) (res : List (Nat × Nat)) (x pr L1 : Addr) (oc : Obj) (i : Nat) (m : Str → Option Value) (h : Heap) : Prop
  | mk (left : List Nat) (pairs : List (Nat × Nat)) (l : Addr) (lv : List Value) (nl : Nat) (ws : List Value) (n : Nat) (j1 : endsF ok (t.length + 1 - i) left pairs = some res) (j2 : ∀ p ∈ left, p < t.length) (j3 : 2 * pairs.length + left.length ≤ 20)
    (mr : m (Str.ofString "record") = some (.ref x)) (ml : m (Str.ofString "left") = some (.ref l)) (mp : m (Str.ofString "pairs") = some (.ref pr))
    (e1 : h.get? l = some (listOf (List.toArray lv) nl)) (e2 : IntsAre lv (left.map Nat.cast)) (e3 : h.get? pr = some (listOf (List.toArray ws) n)) (e4 : PairsAre h ws pairs) (e5 : h.get? L1 = some oc) (a : l ≠ pr) (b : l ≠ L) (c : g.get? l = none) : EndsJ g L t ok res x pr L1 oc i m h
theorem rest_split {g h : Heap} {L pr c l : Addr} {oc ol : Obj} (e5 : h.get? c = some oc) (e1 : h.get? l = some ol) {p : Addr × Obj} (hp : p ∈ restOf g L [pr] h) : p = (c, oc) ∨ p = (l, ol) ∨ p ∈ restOf g L [pr, c, l] h := by
  obtain ⟨a1, a2, a3, a4⟩ := mem_restOf.mp hp
  by_cases hc : p.1 = c
  · left
    rw [hc, e5] at a4
    exact Prod.ext hc (Option.some.inj a4).symm
  · by_cases hl : p.1 = l
    · right; left
      rw [hl, e1] at a4
      exact Prod.ext hl (Option.some.inj a4).symm
    · right; right
      refine mem_restOf.mpr ⟨a1, ?_, a3, a4⟩
      simp only [List.mem_cons, List.not_mem_nil, or_false, not_or] at a2 ⊢
      exact ⟨a2, hc, hl⟩
theorem ends_ok {ok : List Nat → Bool} {res : List (Nat × Nat)} {k : Nat} {left : List Nat} {pairs : List (Nat × Nat)} (h : endsF ok (k + 1) left pairs = some res) (ho : ok (left.drop k) = true) : endsF ok k left pairs = some res := by
  unfold endsF at h
  rw [if_pos ho] at h
  exact h
theorem ends_cut {ok : List Nat → Bool} {res : List (Nat × Nat)} {k : Nat} {left : List Nat} {pairs : List (Nat × Nat)} (h : endsF ok (k + 1) left pairs = some res) (ho : ok (left.drop k) = false) (h2 : k + 2 ≤ left.length) :
    endsF ok k (left.take k ++ left.drop (k + 2)) (pairs ++ [(left.getD k 0, left.getD (k + 1) 0)]) = some res := by
  unfold endsF at h
  rw [if_neg (by rw [ho]; exact Bool.false_ne_true), if_pos h2] at h
  exact h
theorem ends_none {ok : List Nat → Bool} {res : List (Nat × Nat)} {k : Nat} {left : List Nat} {pairs : List (Nat × Nat)} (ho : ok (left.drop k) = false) (h2 : ¬ k + 2 ≤ left.length) : ¬ endsF ok (k + 1) left pairs = some res := by
  intro h
  unfold endsF at h
  rw [if_neg (by rw [ho]; exact Bool.false_ne_true), if_neg h2] at h
  cases h
theorem ends_ar1 {p n st : Nat} (h2 : st + 2 ≤ n) (h : 2 * p + n ≤ 20) : 2 * (p + 1) + (min st n + (n - (st + 2))) ≤ 20 := by
  rw [Nat.min_eq_left (Nat.le_trans (Nat.le_add_right _ _) h2)]
  omega
theorem ends_spec {x : Addr} {rules : List (List Str × Bool)} {t : Str} {tok : Tok} {R : Result → Shared → Prop} {k : Nat} {res : List (Nat × Nat)} (C : Cx w mean mg mb (k + 3) A base outer s.heap)
    (hrec : RecAt s.heap x rules) (ht : t.length ≤ 20) (hF : endsF (fun ps => allowF rules (textOf t ps)) (t.length + 1) (List.range t.length) [] = some res)
    (hR : ∀ a h' tk, s.heap.StaysIn h' → s.heap.get? a = none → PairsAt h' a res → R (.ok (.ret (.ref a))) { s with heap := h', toks := tk }) :
    codeAny (MM w) A (.call (.ref 111) ⟨[.ref x, .str t tok], []⟩) R s := by
  obtain ⟨dx, es, n, rl, vs, I, hrl, hal0, hl, hrules⟩ := id hrec
  refine enterC C (by k_is) (by k_is) (BindsTo.of_eq rfl) rfl (by decide +kernel) rfl rfl rfl ?_
  intro L h₁ tk cells F N Y C'
  obtain ⟨oc, rfl, hoc⟩ := CellsAre.one Y
  have hoc' : oc.data = .cell (some (.str t tok)) := hoc
  clear Y hoc
  have X := C.X
  have T := C.T
  have B := C.B
  k_steps
  rename_i h2 _ _ _ _ hrange F2 N2 hst2
  refine list_rangeD (n := t.length) C'.hh F2 N2 hrange (small_up (a := 0) (by omega) (by omega)) (rangeSize_up (by split <;> omega)) (by omega) ?_
  intro h3 tk3 ys F3 N3 hst3 hnew hlist hplain hcar
  have hints : IntsAre ys ((List.range t.length).map Nat.cast) := by
    have := IntsAre.ofCarried hcar
    rwa [rangeInts_zero] at this
  obtain ⟨⟨cl, hcl⟩, hoffl⟩ := hplain
  have N3' : News s.heap L h3 ((h2.objs.size, listOf ys.toArray cl) :: [(L + 1, oc)]) := by
    intro p hp
    rcases List.mem_cons.mp hp with rfl | hp
    · exact ⟨hcl, Nat.ne_of_gt F2.ns.lt, hnew⟩
    · exact N3 p hp
  clear N3 hst3 hlist hcar hcl hoffl hnew hst2 hrange
  k_steps
  refine Hold.of ?_
  refine' wpAny_For ?_ ?hs
  case hs => intro _; rfl
  k_steps
  refine Hold.of ?_
  rename_i pr _ l1 _ _ _ _ _ _ _ _ hrange F4 N4 hst4
  have npr := N4 _ (.head _)
  have nl := N4 _ (.tail _ (.head _))
  have nc := N4 _ (.tail _ (.tail _ (.head _)))
  refine for_range (g := s.heap) C'.hh hrange (small_down (by omega)) (t.length + 1) rangeSize_down F4 [pr] ?_ (EndsJ s.heap L t (fun ps => allowF rules (textOf t ps)) res x pr (L + 1) oc) ?_ ?_ ?_ ?_
  · intro b hb
    rw [List.mem_singleton.mp hb]
    exact Heap.lt_size npr.1
  · exact ⟨List.range t.length, [], _, ys, cl, [], 0, hF, fun p hp => List.mem_range.mp hp, by simpa using ht, rfl, rfl, rfl, nl.1, hints, npr.1, .nil, nc.1, Nat.ne_of_lt l1.1, nl.2.1, nl.2.2⟩
  · rintro i m h h' ⟨left, pairs, l, lv, nl, ws, n, j1, j2, j3, mr, ml, mp, e1, e2, e3, e4, e5, hlpr, hlL, hlg⟩ st
    refine ⟨left, pairs, l, lv, nl, ws, n, j1, j2, j3, mr, ml, mp, st _ _ e1 rfl (fun q => by cases q), e2, st _ _ e3 rfl (fun q => by cases q), e4.stay (.of_soft st), st _ _ e5 ?_ ?_, hlpr, hlL, hlg⟩
    · unfold soft; rw [hoc']
    · unfold isNsDict; rw [hoc']; intro q; cases q
  · rintro i tv m₁ h tk hi ⟨left, pairs, l, lv, nl, ws, n, j1, j2, j3, mr, ml, mp, e1, e2, e3, e4, e5, hlpr, hlL, hlg⟩ F5
    refine wpAny_gen ?_
    intro K hK
    have hlc : l ≠ L + 1 := by
      rintro rfl
      rw [e1] at e5
      cases e5
      cases hoc'
    have hprc : pr ≠ L + 1 := by
      rintro rfl
      rw [e3] at e5
      cases e5
      cases hoc'
    obtain ⟨st, hst⟩ : ∃ st : Nat, t.length = st + i := ⟨t.length - i, by omega⟩
    have hstart : ((t.length : Nat) : Int) + (i : Int) * (-1) = (st : Nat) := by omega
    have hj1 : t.length + 1 - i = st + 1 := by omega
    have hj2 : t.length + 1 - (i + 1) = st := by omega
    rw [hj1] at j1
    have N5 : News s.heap L h ((pr, listOf (List.toArray ws) n) :: (L + 1, oc) :: (l, listOf (List.toArray lv) nl) :: restOf s.heap L [pr, L + 1, l] h) := by
      intro p hp
      rcases List.mem_cons.mp hp with rfl | hp
      · exact ⟨e3, npr.2⟩
      · rcases List.mem_cons.mp hp with rfl | hp
        · exact ⟨e5, nc.2⟩
        · rcases List.mem_cons.mp hp with rfl | hp
          · exact ⟨e1, hlL, hlg⟩
          · exact rest_news p hp
    have hoff : OwnOff (restOf s.heap L [pr, L + 1, l] h) [pr, L + 1, l] := fun p hp b hb => rest_off b hb p hp
    have hsplit : ∀ p ∈ restOf s.heap L [pr] h, p = (L + 1, oc) ∨ p = (l, listOf (List.toArray lv) nl) ∨ p ∈ restOf s.heap L [pr, L + 1, l] h := fun p hp => rest_split e5 e1 hp
    generalize hrest : restOf s.heap L [pr, L + 1, l] h = rest at N5 hoff hsplit
    have F5s := And.intro F5 trivial
    have hlen := e2.length
    rw [List.length_map] at hlen
    have h20 : left.length ≤ 20 := Nat.le_trans (Nat.le_add_left _ _) j3
    rw [hstart] at F5
    k_steps
    refine Hold.of ?_
    refine' text_listcomp (t := t) (tok := tok) (oc := oc) (c := L + 1) ?clos ?cell ?kind ?names ?hx ?b1 ?a2 ?b5 ?a4 ?a5 ?a6 ?a7 ?hs ?_
    case clos => exact rfl
    case cell => decide
    case kind => exact rfl
    case names => decide
    case hx => exact rfl
    case hs => intro _; rfl
    case b1 => exact C'.hh
    case a2 => first | exact Nat.le_trans ht (by decide) | omega
    case b5 => exact hoc'
    case a4 => exact rfl
    case a5 => exact fun _ => rfl
    case a6 => exact fun _ => rfl
    case a7 => exact fun _ => rfl
    k_steps
    refine Hold.of ?_
    rename Fr _ _ _ _ => F6
    rename News _ _ _ _ => N6
    refine' slice_from (k := st) F6 N6 (News.isList N6 (.tail _ (.tail _ (.head _)))) e2 rfl ?z1 ?_ ?s1 ?t1
    case z1 => rw [List.length_map]; first | exact Nat.le_trans h20 (by decide) | omega
    case s1 => exact rfl
    case t1 => intro _; rfl
    clear F6 N6
    intro D ws' h6 F6 N6 l6 hI7
    rw [← List.map_drop] at hI7
    k_lt l6
    k_steps
    refine Hold.of ⟨D, ws', left.drop st, rfl, News.isList N6 (.head _), hI7, fun p hp => j2 p (List.mem_of_mem_drop hp), by rw [List.length_drop]; first | exact Nat.le_trans (Nat.sub_le _ _) (Nat.le_trans h20 (by decide)) | omega, (N6 _ (.tail _ (.tail _ (.head _)))).1, ?_⟩
    intro D7 h7 tk7 ys7 hD7 hpl7 hstr7 st7
    have F7 := Fr.keeps F6 st7
    have N7 := News.keeps N6 st7
    clear F6 N6
    k_steps
    refine Hold.of ?_
    refine join_listW hpl7.isList hstr7 (by decide +kernel) (by rw [join_weight, List.length_map, List.length_drop]; first | exact Nat.le_trans (Nat.add_le_add (Nat.sub_le _ _) (Nat.sub_le _ _)) (Nat.le_trans (Nat.add_le_add h20 h20) (by decide)) | omega) ?_
    intro t8 k8
    rw [join_textOf]
    k_steps
    refine Hold.of ?_
    refine wpAny_call (allow_spec (C.deeper F7 rfl rfl) (hrec.stays F7.keep) (by rw [textOf_length, List.length_drop]; first | exact Nat.le_trans (Nat.sub_le _ _) (Nat.le_trans h20 (by decide)) | omega) ?_)
    intro h9 tk9 st9
    have F9 := Fr.keeps F7 st9
    have N9 := News.keeps N7 st9
    clear F7 N7
    dsimp only
    cases hok : allowF rules (textOf t (left.drop st)) with
    | true =>
      k_steps
      rename Fr _ _ _ _ => Fe
      rename News _ _ _ _ => Ne
      have hj := ends_ok j1 hok
      have st : TupStay h _ := fronts_stay hrest F5s.1 Fe Ne (fun p hp => .tail _ (.tail _ (.tail _ (.tail _ hp)))) e1 e3 e5 (by rw [hoc']; exact fun _ _ e => nomatch e)
      refine hK _ _ ?_
      refine' TurnEnd.next ?a Fe Ne ?b ?c
      case a => exact F5s.1
      case b =>
        intro p hp
        rcases hsplit p hp with rfl | rfl | hp
        · exact .tail _ (.tail _ (.head _))
        · exact .tail _ (.tail _ (.tail _ (.head _)))
        · exact .tail _ (.tail _ (.tail _ (.tail _ hp)))
      case c =>
        exact ⟨left, pairs, l, lv, nl, ws, n, by rw [hj2]; exact hj, j2, j3, mr, ml, mp, (Ne _ (.tail _ (.tail _ (.tail _ (.head _))))).1, e2, (Ne _ (.tail _ (.head _))).1, e4.stay st, (Ne _ (.tail _ (.tail _ (.head _)))).1, hlpr, hlL, hlg⟩
    | false =>
      k_steps
      · rename (st : Int) + 2 ≤ _ => h2s
        rw [List.length_map] at h2s
        have h2s' : st + 2 ≤ left.length := by omega
        refine Hold.of ?_
        obtain ⟨ta, ha⟩ := IntsAre.get e2 st ((left.getD st 0 : Nat) : Int) (ints_getD (Nat.lt_of_lt_of_le (Nat.lt_add_of_pos_right (by decide)) h2s'))
        obtain ⟨tb, hb⟩ := IntsAre.get e2 (st + 1) ((left.getD (st + 1) 0 : Nat) : Int) (ints_getD h2s')
        rename News _ _ _ _ => Nq
        refine' item_at (k := st) (News.isList Nq (.tail _ (.tail _ (.tail _ (.head _))))) ?i1 ha ?i2 ?_ ?i3
        case i1 => rfl
        case i2 => first | exact Nat.lt_of_lt_of_le (Nat.lt_of_lt_of_le (Nat.lt_add_of_pos_right (by decide)) h2s') (Nat.le_trans h20 (by decide)) | exact Nat.lt_of_lt_of_le h2s' (Nat.le_trans h20 (by decide)) | omega
        case i3 => exact rfl
        k_steps
        refine Hold.of ?_
        rename News _ _ _ _ => Nq
        refine' item_at (k := st + 1) (News.isList Nq (.tail _ (.tail _ (.tail _ (.head _))))) ?i1 hb ?i2 ?_ ?i3
        case i1 => omega
        case i2 => first | exact Nat.lt_of_lt_of_le (Nat.lt_of_lt_of_le (Nat.lt_add_of_pos_right (by decide)) h2s') (Nat.le_trans h20 (by decide)) | exact Nat.lt_of_lt_of_le h2s' (Nat.le_trans h20 (by decide)) | omega
        case i3 => exact rfl
        have hprlt := ltN (Heap.lt_size (Nq _ (.tail _ (.head _))).1)
        dsimp only at hprlt
        k_steps
        refine Hold.of ?_
        rename Fr _ _ _ _ => Fz
        rename News _ _ _ _ => Nz
        have hwl := e4.length
        refine' append_K Fz Nz ?Uq ?_ ?zq
        case Uq => k_upd
        case zq => rw [List.size_toArray, hwl, sizeLine_eq]; omega
        intro hA FA NA
        clear Nz Fz
        k_steps
        refine Hold.of ?_
        rename Fr _ _ _ _ => Fz
        rename News _ _ _ _ => Nz
        refine' slice_to (k := st) Fz Nz (News.isList Nz (.tail _ (.tail _ (.tail _ (.tail _ (.head _)))))) e2 ?k2 ?z2 ?_ ?s2 ?t2
        case k2 => rfl
        case z2 => rw [List.length_map]; first | exact Nat.le_trans h20 (by decide) | omega
        case s2 => exact rfl
        case t2 => intro _; rfl
        clear Fz Nz
        intro D2 ws2 h22 F22 N22 l22 hI22
        k_lt l22
        k_steps
        refine Hold.of ?_
        rename Fr _ _ _ _ => Fz
        rename News _ _ _ _ => Nz
        refine' slice_from (k := st + 2) Fz Nz (News.isList Nz (.tail _ (.tail _ (.tail _ (.tail _ (.tail _ (.head _))))))) e2 ?k3 ?z3 ?_ ?s3 ?t3
        case k3 => omega
        case z3 => rw [List.length_map]; first | exact Nat.le_trans h20 (by decide) | omega
        case s3 => exact rfl
        case t3 => intro _; rfl
        clear Fz Nz
        intro D3 ws3 h33 F33 N33 l33 hI33
        k_lt l33
        k_steps
        rename Fr _ _ _ _ => Fe
        rename News _ _ _ _ => Ne
        rename IntsAre _ (List.take _ _ ++ List.drop _ _) => hIe
        rename_i D9 _ _ l1e _
        have hD9 : D9 ≠ pr := Nat.ne_of_gt l1e.2.2.2.2.1
        have hj := ends_cut j1 hok h2s'
        have st' : TupStay h _ := fronts_stay hrest F5s.1 Fe Ne (fun p hp => .tail _ (.tail _ (.tail _ (.tail _ (.tail _ (.tail _ (.tail _ (.tail _ hp)))))))) e1 e3 e5 (by rw [hoc']; exact fun _ _ e => nomatch e)
        rw [← List.map_take, ← List.map_drop, ← List.map_append] at hIe
        have hpush := (Ne _ (.tail _ (.tail _ (.tail _ (.tail _ (.tail _ (.head _))))))).1
        rw [List.push_toArray] at hpush
        refine hK _ _ ?_
        refine' TurnEnd.next ?ta Fe Ne ?tb ?tc
        case ta => exact F5s.1
        case tb =>
          intro p hp
          rcases hsplit p hp with rfl | rfl | hp
          · exact .tail _ (.tail _ (.tail _ (.tail _ (.tail _ (.tail _ (.head _))))))
          · exact .tail _ (.tail _ (.tail _ (.tail _ (.tail _ (.tail _ (.tail _ (.head _)))))))
          · exact .tail _ (.tail _ (.tail _ (.tail _ (.tail _ (.tail _ (.tail _ (.tail _ hp)))))))
        case tc =>
          refine ⟨left.take st ++ left.drop (st + 2), pairs ++ [(left.getD st 0, left.getD (st + 1) 0)], _, _, 0, ws ++ [.ref _], n + 1, by rw [hj2]; exact hj, ?_, ?_, mr, rfl, mp, (Ne _ (.head _)).1, hIe, hpush, (e4.stay st').snoc (Ne _ (.tail _ (.tail _ (.tail _ (.head _))))).1, (Ne _ (.tail _ (.tail _ (.tail _ (.tail _ (.tail _ (.tail _ (.head _)))))))).1, hD9, (Ne _ (.head _)).2.1, (Ne _ (.head _)).2.2⟩
          · intro p hp
            rcases List.mem_append.mp hp with hp | hp
            · exact j2 p (List.mem_of_mem_take hp)
            · exact j2 p (List.mem_of_mem_drop hp)
          · simp only [List.length_append, List.length_take, List.length_drop, List.length_singleton]; exact ends_ar1 h2s' j3
      · rename ¬ ((st : Int) + 2 ≤ _) => hno
        rw [List.length_map] at hno
        exact absurd j1 (ends_none hok (by omega))
  · rintro h tk m₁ ⟨left, pairs, l, lv, nl, ws, n, j1, j2, j3, mr, ml, mp, e1, e2, e3, e4, e5, hlpr, hlL, hlg⟩ F5
    have hj : t.length + 1 - (t.length + 1) = 0 := by omega
    rw [hj] at j1
    have hres : pairs = res := Option.some.inj j1
    subst hres
    dsimp only
    k_steps
    exact hR pr _ _ F5.keep npr.2.2 ⟨ws, n, e3, e4⟩
-- RRow2
section
local macro_rules | `(tactic| k_mem) => `(tactic| assumption)
local macro_rules | `(tactic| is_list) => `(tactic| exact News.isList (by assumption) (by first | assumption | exact List.mem_cons_of_mem _ (by assumption) | exact List.mem_cons_of_mem _ (List.mem_cons_of_mem _ (by assumption))))

noncomputable def cutAt9 (ns : List Int) : List Int := ns.takeWhile fun n => n != 9
noncomputable def rowStep (row : List Int) (f : Int) : List Int :=
  if f < 10 then row ++ [f] else if f < 13 then row ++ [(f - 10).fmod 3 * 2, (f - 10).fmod 3 * 2 + 1] else (f - 10).fmod 3 * 2 :: row ++ [(f - 10).fmod 3 * 2 + 1]
noncomputable def rowF (ns : List Int) : List Int := (cutAt9 ns).foldl rowStep []
theorem weight_fin : ∀ k : Fin 16, PyData.weight (PyData.int ((k.val : Nat) : Int)) ≤ 4 := by decide
theorem weight_one {n : Int} (h : 0 ≤ n ∧ n < 16) : PyData.weight (PyData.int n) ≤ 4 := by
  have e : n = (((⟨n.toNat, (Int.toNat_lt h.1).mpr h.2⟩ : Fin 16).val : Nat) : Int) := (Int.toNat_of_nonneg h.1).symm
  rw [e]
  exact weight_fin _
theorem weight_small : ∀ (ns : List Int), (∀ n ∈ ns, 0 ≤ n ∧ n < 16) → PyData.weightAll (ns.map PyData.int) ≤ 5 * ns.length
  | [], _ => by simp [PyData.weightAll]
  | n :: r, h => by
    have ih := weight_small r fun x hx => h x (.tail _ hx)
    have h1 := weight_one (h n (.head _))
    rw [List.map_cons, List.length_cons]
    unfold PyData.weightAll
    clear h
    omega
theorem lay_small {ns : List Int} (h : ∀ n ∈ ns, 0 ≤ n ∧ n < 16) (hl : ns.length ≤ 100) : PyData.layable0 (.list (ns.map PyData.int)) = true := by
  unfold PyData.layable0
  have h1 : PyData.canLay0 (.list (ns.map PyData.int)) = true := by
    unfold PyData.canLay0; exact canLayAll0_ints ns
  have h2 : PyData.depth (.list (ns.map PyData.int)) ≤ 64 := by
    unfold PyData.depth
    have := W.depthAll_ints ns
    omega
  have h3 : PyData.weight (.list (ns.map PyData.int)) ≤ 2 ^ 20 := by
    unfold PyData.weight
    have := weight_small ns h
    omega
  rw [h1]
  simp [h2, h3]
theorem idx_cut : ∀ (ns : List Int), ns.take ((ns ++ [9]).idxOf 9) = cutAt9 ns
  | [] => rfl
  | n :: r => by
    unfold cutAt9
    rw [List.cons_append, List.idxOf_cons, List.takeWhile_cons]
    by_cases hn : n = 9
    · subst hn; simp
    · have e1 : (n == (9 : Int)) = false := by simpa using hn
      have e2 : (n != (9 : Int)) = true := by simpa using hn
      rw [e1, e2]
      simp only [cond_false, List.take_succ_cons, if_true]
      rw [idx_cut r]
      rfl
theorem cut_facts {ns : List Int} (hns : ∀ n ∈ ns, 0 ≤ n ∧ n < 16) : ∀ n ∈ cutAt9 ns, 0 ≤ n ∧ n < 16 ∧ n ≠ 9 := by
  induction ns with
  | nil => intro n hn; cases hn
  | cons a r ih =>
    intro n hn
    unfold cutAt9 at hn
    rw [List.takeWhile_cons] at hn
    split at hn
    · rename_i ha
      rcases List.mem_cons.mp hn with rfl | hn
      · have := hns n (.head _)
        exact ⟨this.1, this.2, by simpa using ha⟩
      · exact ih (fun x hx => hns x (.tail _ hx)) n hn
    · cases hn
theorem cut_len (ns : List Int) : (cutAt9 ns).length ≤ ns.length := (List.takeWhile_sublist _).length_le
theorem row_len (ns : List Int) : (ns.foldl rowStep []).length ≤ 2 * ns.length := by
  have key : ∀ (ns acc : List Int), (ns.foldl rowStep acc).length ≤ acc.length + 2 * ns.length := by
    intro ns
    induction ns with
    | nil => intro acc; simp
    | cons a r ih =>
      intro acc
      rw [List.foldl_cons]
      have h1 := ih (rowStep acc a)
      have h2 : (rowStep acc a).length ≤ acc.length + 2 := by
        unfold rowStep
        (repeat' split) <;> simp
      rw [List.length_cons]
      omega
  have := key ns []
  simpa using this
theorem ints_item {vs : List Value} {ns : List Int} (h : IntsAre vs ns) (i : Nat) (v : Value) (e : vs[i]? = some v) : ∃ n t, v = .int n t ∧ ns[i]? = some n := by
  have hb : i < vs.length := by
    rcases Nat.lt_or_ge i vs.length with h | h
    · exact h
    · rw [List.getElem?_eq_none h] at e; cases e
  have hb' : i < ns.length := by rw [← h.length]; exact hb
  obtain ⟨tp, e'⟩ := h.get i ns[i] (List.getElem?_eq_getElem hb')
  rw [e] at e'
  exact ⟨ns[i], tp, Option.some.inj e', List.getElem?_eq_getElem hb'⟩
theorem rest_split1 {g h : Heap} {L l : Addr} {ol : Obj} (e1 : h.get? l = some ol) {p : Addr × Obj} (hp : p ∈ restOf g L [] h) : p = (l, ol) ∨ p ∈ restOf g L [l] h := by
  obtain ⟨a1, a2, a3, a4⟩ := mem_restOf.mp hp
  by_cases hl : p.1 = l
  · left
    rw [hl, e1] at a4
    exact Prod.ext hl (Option.some.inj a4).symm
  · right
    exact mem_restOf.mpr ⟨a1, by simpa using hl, a3, a4⟩
theorem row_spec {l : Addr} {vs : List Value} {ns : List Int} {R : Result → Shared → Prop} {k : Nat} (C : Cx w mean mg mb (k + 1) A base outer s.heap) (hl : s.heap.IsList l vs.toArray) (hi : IntsAre vs ns) (hlen : ns.length ≤ 20) (hns : ∀ n ∈ ns, 0 ≤ n ∧ n < 16)
    (hR : ∀ a h' tk rv n, s.heap.StaysIn h' → s.heap.get? a = none → h'.get? a = some (listOf (List.toArray rv) n) → IntsAre rv (rowF ns) → R (.ok (.ret (.ref a))) { s with heap := h', toks := tk }) :
    codeAny (MM w) A (.call (.ref 94) ⟨[.ref l], []⟩) R s := by
  refine enter C (by k_is) (by k_is) (BindsTo.of_eq rfl) (locs rfl) rfl rfl rfl (by decide) ?_
  intro L h₁ tk F N C'
  have X := C.X
  have T := C.T
  have B := C.B
  k_steps
  refine Hold.of ?_
  refine' wpAny_For ?_ ?hs
  case hs => intro _; rfl
  k_steps
  rename IntsAre _ (ns ++ [9]) => hI9
  rename News _ _ _ _ => N9
  refine index_list_ints (News.isList N9 (.head _)) hI9 (lay_small ?_ ?_) (by simp) ?_
  · intro n hn
    rcases List.mem_append.mp hn with hn | hn
    · exact hns n hn
    · rw [List.mem_singleton.mp hn]; decide
  · rw [List.length_append]; simp; omega
  k_steps
  refine Hold.of ?_
  rename Fr _ _ _ _ => F3
  rename News _ _ _ _ => N3
  refine' slice_to (k := (ns ++ [9]).idxOf (9 : Int)) F3 N3 (hl.at fun o e => F3.keep _ _ e) hi rfl ?z1 ?_ ?s1 ?t1
  case z1 => omega
  case s1 => exact rfl
  case t1 => intro _; rfl
  clear F3 N3
  intro Dc wsc hc F4 N4 l4 hIc
  rw [idx_cut ns] at hIc
  k_lt l4
  k_steps
  refine Hold.of ?_
  have nl0 := N4 _ (.tail _ (.tail _ (.tail _ (.head _))))
  have hcut : ∀ n ∈ cutAt9 ns, 0 ≤ n ∧ n < 16 ∧ n ≠ 9 := cut_facts hns
  have hclen : (cutAt9 ns).length ≤ 20 := Nat.le_trans (cut_len ns) hlen
  refine for_list (g := s.heap) C'.hh (News.isList N4 (.head _)) F4 [] (by simp) (by simp)
    (fun i m h => ∃ l rv n, m (Str.ofString "row") = some (.ref l) ∧ h.get? l = some (listOf (List.toArray rv) n) ∧ IntsAre rv (((cutAt9 ns).take i).foldl rowStep []) ∧ l ≠ L ∧ s.heap.get? l = none)
    ⟨_, [], 0, rfl, nl0.1, .nil, nl0.2.1, nl0.2.2⟩ ?_ ?_ ?_
  · rintro i m h h' ⟨l, rv, n, a1, a2, a3, a4, a5⟩ st
    exact ⟨l, rv, n, a1, st _ _ a2 rfl (fun q => by cases q), a3, a4, a5⟩
  · rintro i v m₁ h tk hv ⟨l, rv, n, a1, a2, a3, a4, a5⟩ F5
    refine wpAny_gen ?_
    intro K hK
    obtain ⟨f, tf, rfl, hfi⟩ := ints_item hIc i v hv
    obtain ⟨hf0, hf1, hf2⟩ := hcut f (List.mem_of_getElem? hfi)
    have hlr := row_len ((cutAt9 ns).take i)
    have hti : ((cutAt9 ns).take i).length ≤ 20 := by rw [List.length_take]; omega
    have hlv := a3.length
    have hsucc : ((cutAt9 ns).take (i + 1)).foldl rowStep [] = rowStep (((cutAt9 ns).take i).foldl rowStep []) f := by
      rw [List.take_add_one, hfi, List.foldl_append]; rfl
    generalize ((cutAt9 ns).take i).foldl rowStep [] = row at a3 hsucc hlr hlv
    have xl : (l, listOf (List.toArray rv) n) ∈ restOf s.heap L [] h := mem_restOf.mpr ⟨a4, (fun h => by cases h), a5, a2⟩
    have N5 : News s.heap L h (restOf s.heap L [] h) := rest_news
    generalize hrest : restOf s.heap L [] h = X1 at N5 xl
    have hr : ∀ p ∈ restOf s.heap L [] h, p ∈ X1 := fun p hp => hrest ▸ hp
    have F5s := And.intro F5 trivial
    have hz : row.length ≤ 40 := by omega
    clear a2 a4 a5 hlr hti hf2 hfi hcut
    k_steps
    · rename Fr _ _ _ _ => Fe
      rename News _ _ _ _ => Ne
      rename IntsAre _ _ => hIe
      refine hK _ _ (TurnEnd.next F5s.1 Fe Ne ?_ ⟨_, _, 0, rfl, (Ne _ (.head _)).1, ?_, (Ne _ (.head _)).2.1, (Ne _ (.head _)).2.2⟩)
      · exact fun p hp => .tail _ (.tail _ (hr p hp))
      · rw [hsucc]
        unfold rowStep
        rw [if_pos (by assumption)]
        exact hIe
    · rename Fr _ _ _ _ => Fe
      rename News _ _ _ _ => Ne
      rename IntsAre _ _ => hIe
      refine hK _ _ (TurnEnd.next F5s.1 Fe Ne ?_ ⟨_, _, 0, rfl, (Ne _ (.head _)).1, ?_, (Ne _ (.head _)).2.1, (Ne _ (.head _)).2.2⟩)
      · exact fun p hp => .tail _ (.tail _ (hr p hp))
      · rw [hsucc]
        unfold rowStep
        rw [if_neg (by assumption), if_pos (by assumption)]
        exact hIe
    · rename Fr _ _ _ _ => Fe
      rename News _ _ _ _ => Ne
      rename IntsAre _ _ => hIe
      refine hK _ _ (TurnEnd.next F5s.1 Fe Ne ?_ ⟨_, _, 0, rfl, (Ne _ (.head _)).1, ?_, (Ne _ (.head _)).2.1, (Ne _ (.head _)).2.2⟩)
      · exact fun p hp => .tail _ (.tail _ (.tail _ (.tail _ (hr p hp))))
      · rw [hsucc]
        unfold rowStep
        rw [if_neg (by assumption), if_neg (by assumption)]
        exact hIe
  · rintro h tk m₁ ⟨l, rv, n, a1, a2, a3, a4, a5⟩ F5
    rw [hIc.length, List.take_length] at a3
    dsimp only
    k_steps
    exact hR l _ _ rv n F5.keep a5 a2 a3
end
end
section
local macro_rules | `(tactic| walk_at $s:str) => if ["exec For Name Attribute cons nil", "exec For Name Subscript cons nil", "exec For Name Name cons nil", "exec For Name Call cons nil", "exec For Tuple Call cons nil", "exec While", "exec Assign cons ListComp", "eval ListComp", "subscriptTail Name UnaryOp ref int", "subscriptTail Name Subscript ref int", "subscriptTail Name Name ref int", "subscriptTail Name UnaryOp Constant ref int", "subscriptTail Name Subscript Name UnaryOp ref int", "call builtin:list.pop cons nil", "compareOp NotEq ref ref", "compareOp Eq ref ref", "compareOp In int ref", "call builtin:str.join cons nil", "subscriptTail Name BinOp ref int", "subscriptTail Name Slice ref ref"].contains s.getString then `(tactic| (refine Hold.mk ?_)) else `(tactic| fail)
local macro_rules | `(tactic| walk_at "pyIter ref") => `(tactic| ((with_reducible show wpAny _ _ (pyIter (Value.ref _)) (fun _ _ => codeAny _ _ _ _ _) _ _); refine Hold.mk ?_))
local macro_rules | `(tactic| walk_at "call ref") => `(tactic| ((first | (with_reducible show wpAny _ _ (call (Value.ref 94) _) _ _ _) | (with_reducible show wpAny _ _ (call (Value.ref 87) _) _ _ _) | (with_reducible show wpAny _ _ (call (Value.ref 106) _) _ _ _) | (with_reducible show wpAny _ _ (call (Value.ref 111) _) _ _ _) | (with_reducible show wpAny _ _ (call (Value.ref 118) _) _ _ _) | (with_reducible show wpAny _ _ (call (Value.ref 80) _) _ _ _)); refine Hold.mk ?_))
local macro_rules | `(tactic| walk_at "eval Name") => `(tactic| (k_here; k_dflt (refine' nameX_L ?F ?v ?_ ?a ?b; (case F => k_asm); (case a => rfl); (case b => rfl); (case v => assumption); k_whole)))
local macro_rules | `(tactic| walk_at "no such place") => `(tactic| fail)
local macro_rules | `(tactic| walk_at "no such place") => `(tactic| fail)
local macro_rules | `(tactic| walk_at "no such place") => `(tactic| fail)
local macro_rules | `(tactic| walk_at "no such place") => `(tactic| fail)
variable {w : World} {mean : ExcName → Option Value} {mg mb : Str → Option Value} {A : Around} {base : Heap} {outer : List Env} {s : Shared}
-- RLC
noncomputable abbrev PG : Program := pLaw.row.prog
noncomputable def SrcInts (w : World) (A : Around) (xv : Value) (ns : List Int) (s₁ : Shared) : Prop :=
  ∀ (E : Value → Shared → Prop) (Q : Value → Shared → Prop), (∀ o fp P St, soft o = false → Walks PG w A s₁.heap.objs.size fp [s₁.heap.objs.size] ns.length P St → St 0 (s₁.heap.push o) → (∀ b ∈ fp, b < s₁.heap.objs.size + 1) → (∀ i v, P i v → ∃ n t, ns[i]? = some n ∧ v = Value.int n t) →
    Q (.ref s₁.heap.objs.size) { s₁ with heap := s₁.heap.push o }) → wpAny (model PG w) A (pyIter xv) Q E s₁
theorem src_list {D : Addr} {wv : List Value} {ns : List Int} (hh : A.handled = none) (hl : s.heap.IsList D wv.toArray) (hi : IntsAre wv ns) : SrcInts w A (.ref D) ns s := by
  intro E Q h
  obtain ⟨ol, hol, _⟩ := id hl
  have hlt : D < s.heap.objs.size := Heap.lt_size hol
  refine wpAny_pyIter_list hl ?_
  have W := Walks.list (prog := PG) (w := w) hh s.heap.objs.size D (Nat.ne_of_lt hlt) wv.toArray
  rw [show wv.toArray.size = ns.length from by rw [← hi.length]; simp] at W
  refine h _ _ _ _ rfl W ⟨⟨_, Heap.get?_push_size _ rfl, rfl, rfl⟩, hl.at fun o e => Heap.get?_push_of_some _ e⟩ ?_ ?_
  · intro b hb
    rcases List.mem_cons.mp hb with rfl | hb
    · exact Nat.lt_succ_self _
    · rw [List.mem_singleton.mp hb]; exact Nat.lt_succ_of_lt hlt
  · intro i v hv
    obtain ⟨n, t, e1, e2⟩ := ints_item hi i v (by simpa using hv)
    exact ⟨n, t, e2, e1⟩
theorem src_tuple {D : Addr} {wv : List Value} {ns : List Int} (hh : A.handled = none) (hl : s.heap.IsTuple D wv.toArray) (hi : IntsAre wv ns) : SrcInts w A (.ref D) ns s := by
  intro E Q h
  obtain ⟨ol, hol, _⟩ := id hl
  have hlt : D < s.heap.objs.size := Heap.lt_size hol
  refine wpAny_pyIter_tuple hl ?_
  have W := Walks.tuple (prog := PG) (w := w) hh s.heap.objs.size D (Nat.ne_of_lt hlt) wv.toArray
  rw [show wv.toArray.size = ns.length from by rw [← hi.length]; simp] at W
  refine h _ _ _ _ rfl W ⟨⟨_, Heap.get?_push_size _ rfl, rfl, rfl⟩, hl.at fun o e => Heap.get?_push_of_some _ e⟩ ?_ ?_
  · intro b hb
    rcases List.mem_cons.mp hb with rfl | hb
    · exact Nat.lt_succ_self _
    · rw [List.mem_singleton.mp hb]; exact Nat.lt_succ_of_lt hlt
  · intro i v hv
    obtain ⟨n, t, e1, e2⟩ := ints_item hi i v (by simpa using hv)
    exact ⟨n, t, e2, e1⟩
theorem src_range {r : Addr} {a b : Int} {t u v : Tok} {n : Nat} (hh : A.handled = none) (hr : IsRange s.heap r a b 1 t u v) (hsmall : Builtin.Range.small a b 1 = true) (hn : Builtin.Range.rangeSize a b 1 = n) : SrcInts w A (.ref r) ((List.range n).map fun i : Nat => a + (i : Int)) s := by
  intro E Q h
  refine wpAny_pyIter_range hr hsmall ?_
  rw [hn]
  have W := (Walks.range (prog := PG) (w := w) hh s.heap.objs.size a 1 n).bound
  have el : ((List.range n).map fun i : Nat => a + (i : Int)).length = n := by rw [List.length_map, List.length_range]
  rw [← el] at W
  refine h _ _ _ _ rfl W ?_ ?_ ?_
  · have e1 : a + ((0 : Nat) : Int) * 1 = a := by simp
    have e2 : (((List.range n).map fun i : Nat => a + (i : Int)).length : Int) - ((0 : Nat) : Int) = n := by rw [el]; simp
    show Heap.get? _ _ = _
    rw [e1, e2]
    exact Heap.get?_push_size _ rfl
  · intro b hb
    rw [List.mem_singleton.mp hb]; exact Nat.lt_succ_self _
  · intro i v hP
    obtain ⟨hlt, tv, rfl⟩ := hP
    rw [el] at hlt
    refine ⟨a + (i : Int) * 1, tv, ?_, rfl⟩
    rw [List.getElem?_map, List.getElem?_range hlt]
    simp

theorem paired_filter {F : Int → Value → Prop} {p : Int → Bool} {pv : Value → Bool} (hpv : ∀ n t, pv (.int n t) = p n) : ∀ {vs : List Value} {ns : List Int} {ys : List Value}, IntsAre vs ns → Paired (fun (v y : Value) => ∃ n t, v = Value.int n t ∧ F n y) (vs.filter pv) ys → Paired F (ns.filter p) ys := by
  intro vs ns ys r h
  induction r generalizing ys with
  | nil => cases h; exact .nil
  | cons n t hr ih =>
    rw [List.filter_cons, hpv] at h
    rw [List.filter_cons]
    cases hp : p n with
    | true =>
      rw [hp] at h
      simp only [if_true] at h ⊢
      cases h with
      | cons hab hr' =>
        obtain ⟨n', t', e, hf⟩ := hab
        cases e
        exact .cons hf (ih hr')
    | false =>
      rw [hp] at h
      simp only [Bool.false_eq_true, if_false] at h ⊢
      exact ih h
theorem ints_of_items : ∀ {ns : List Int} {vs : List Value}, vs.length = ns.length → (∀ (i : Nat) (v : Value), vs[i]? = some v → ∃ n t, ns[i]? = some n ∧ v = Value.int n t) → IntsAre vs ns
  | [], [], _, _ => .nil
  | [], _ :: _, h, _ => by simp at h
  | _ :: _, [], h, _ => by simp at h
  | n :: ns, v :: vs, h, hi => by
    obtain ⟨n', t, e, rfl⟩ := hi 0 v rfl
    have e' : n = n' := by simpa using e
    subst e'
    exact .cons _ _ (ints_of_items (by simpa using h) fun i v hv => by simpa using hi (i + 1) v (by simpa using hv))
noncomputable def pvOf (p : Int → Bool) (v : Value) : Bool := match v with | .int n _ => p n | _ => false
noncomputable def CTests (w : World) (A : Around) (env : Env) (scope : Scope) (cl : List (Str × Addr)) (x : Str) (ifs : List PySem.Expr) (s₁ : Shared) (ns : List Int) (p : Int → Bool) : Prop :=
  ∀ C n t s₃ m₃ E', n ∈ ns → s₁.heap.objs.size < C → s₃.heap.Ns C m₃ → m₃ x = some (.int n t) → s₁.heap.StaysIn s₃.heap →
    wpAny (model PG w) A (forIn ifs true fun c r => if r = true then do let ok ← isTrue c (compEnvC scope cl C env) (eval c (compEnvC scope cl C env)); pure (ForInStep.yield ok) else pure (ForInStep.yield r))
      (fun ok s₄ => Hold (ok = p n ∧ Keeps s₃ s₄)) E' s₃
noncomputable def CElts (w : World) (A : Around) (env : Env) (scope : Scope) (cl : List (Str × Addr)) (x : Str) (elt : PySem.Expr) (s₁ : Shared) (ns : List Int) (p : Int → Bool) (F : Int → Value → Prop) : Prop :=
  ∀ C n t s₃ m₃ E', n ∈ ns → p n = true → s₁.heap.objs.size < C → s₃.heap.Ns C m₃ → m₃ x = some (.int n t) → s₁.heap.StaysIn s₃.heap →
    wpAny (model PG w) A (eval elt (compEnvC scope cl C env)) (fun y s₄ => Hold (F n y ∧ Keeps s₃ s₄)) E' s₃
theorem ctests_none {env : Env} {scope : Scope} {cl : List (Str × Addr)} {x : Str} {ns : List Int} : CTests w A env scope cl x [] s ns (fun _ => true) := by
  intro C n t s₃ m₃ E' _ _ _ _ _
  exact wpAny_pure ⟨rfl, _, _, rfl, fun _ _ e => e⟩
theorem ctests_one {env : Env} {scope : Scope} {cl : List (Str × Addr)} {x : Str} {c : PySem.Expr} {ns : List Int} {p : Int → Bool}
    (h : ∀ C n t s₃ m₃ E', n ∈ ns → s.heap.objs.size < C → s₃.heap.Ns C m₃ → m₃ x = some (.int n t) → s.heap.StaysIn s₃.heap →
      wpAny (model PG w) A (isTrue c (compEnvC scope cl C env) (eval c (compEnvC scope cl C env))) (fun ok s₄ => Hold (ok = p n ∧ Keeps s₃ s₄)) E' s₃) : CTests w A env scope cl x [c] s ns p := by
  intro C n t s₃ m₃ E' h1 h2 h3 h4 h5
  rw [List.forIn_cons]
  simp only [if_true]
  refine wpAny_bind (wpAny_bind (wpAny_mono (h C n t s₃ m₃ E' h1 h2 h3 h4 h5) (fun ok s₄ hk => wpAny_pure ?_) fun _ _ e => e))
  exact wpAny_pure hk
theorem comp_core {E : Value → Shared → Prop} {env : Env} {scope : Scope} {cl : List (Str × Addr)} {x : Str} {ifs : List PySem.Expr} {elt : PySem.Expr} {xv : Value} {ns : List Int} {p : Int → Bool} {F : Int → Value → Prop} {R : Value → Shared → Prop}
    (src : SrcInts w A xv ns s) (hn : ns.length ≤ 1000) (ht : CTests w A env scope cl x ifs s ns p) (he : CElts w A env scope cl x elt s ns p F)
    (hR : ∀ I fp o P St, s.heap.get? I = none → soft o = false → Walks PG w A I fp [I] ns.length P St → St 0 (s.heap.push o) → (∀ b ∈ fp, b < (s.heap.push o).objs.size) →
      QuietOnC PG w A env scope cl x ifs elt [I] P (pvOf p) (fun (v y : Value) => ∃ n t, v = Value.int n t ∧ F n y) { s with heap := s.heap.push o } →
      (∀ (vs ys : List Value), vs.length = ns.length → (∀ j v, vs[j]? = some v → P j v) → Paired (fun (v y : Value) => ∃ n t, v = Value.int n t ∧ F n y) (vs.filter (pvOf p)) ys → Paired F (ns.filter p) ys) → R (.ref I) { s with heap := s.heap.push o }) :
    wpAny (model PG w) A (pyIter xv) R E s := by
  refine src E R fun o fp P St hso W hst hfp hP => ?_
  have hI : s.heap.get? s.heap.objs.size = none := Heap.get?_none_of_le (Nat.le_refl _)
  have stay : ∀ s₃ : Shared, (∀ b o', b ∉ [s.heap.objs.size] → (s.heap.push o).get? b = some o' → s₃.heap.get? b = some o') → s.heap.StaysIn s₃.heap := fun s₃ hk b o' e => hk b o' (by
    intro hm
    rw [List.mem_singleton.mp hm] at e
    exact absurd (Heap.lt_size e) (Nat.lt_irrefl _)) (Heap.get?_push_of_some _ e)
  refine hR _ fp o P St hI hso W hst (by intro b hb; rw [Heap.size_push]; exact hfp b hb) ⟨?_, ?_⟩ ?_
  · intro C i v s₃ m₃ E' hC hv hns hm hk _
    obtain ⟨n, t, e1, rfl⟩ := hP i v hv
    exact ht C n t s₃ m₃ E' (List.mem_of_getElem? e1) (Nat.lt_of_lt_of_le (Nat.lt_succ_self _) (Nat.le_trans (Nat.le_of_eq (Heap.size_push ..).symm) hC)) hns hm (stay s₃ hk)
  · intro C i v s₃ m₃ E' hC hv hpv hns hm hk _
    obtain ⟨n, t, e1, rfl⟩ := hP i v hv
    exact wpAny_mono (he C n t s₃ m₃ E' (List.mem_of_getElem? e1) hpv (Nat.lt_of_lt_of_le (Nat.lt_succ_self _) (Nat.le_trans (Nat.le_of_eq (Heap.size_push ..).symm) hC)) hns hm (stay s₃ hk)) (fun y s₄ h => ⟨⟨n, t, rfl, h.1⟩, h.2⟩) fun _ _ e => e
  · intro vs ys hl hvP hpair
    exact paired_filter (fun _ _ => rfl) (ints_of_items hl fun i v hv => hP i v (hvP i v hv)) hpair
noncomputable def AllNe (D : Addr) : List (Addr × Obj) → Prop
  | [] => True
  | p :: r => (@Ne Nat p.1 D) ∧ AllNe D r
theorem allNe_of {D : Addr} : ∀ {l : List (Addr × Obj)}, (∀ p ∈ l, p.1 ≠ D) → AllNe D l
  | [], _ => trivial
  | _ :: _, h => ⟨h _ (.head _), allNe_of fun p hp => h p (.tail _ hp)⟩
theorem listcomp_ints {E : Value → Shared → Prop} {env : Env} {scope : Scope} {cl : List (Str × Addr)} {x : Str} {px pos : Pos} {ifs : List PySem.Expr} {elt iter : PySem.Expr} (F : Int → Value → Prop) (p : Int → Bool) {Q : Value → Shared → Prop}
    (hclos : closureFor scope env = pure cl) (hcell : ∀ y ∈ scope.names, y.2 ≠ .cell) (hkind : scope.kind = .function) (hnames : ∀ y ∈ scope.names, y.2 = .local → scope.names.lookup y.1 = some .local) (hx : scope.names.lookup x = some .local)
    (hs : ∀ x, foldedSetIterable iter env x = pure x)
    (h : wpAny (model PG w) A (eval iter env) (fun xv s₁ => Hold (∃ ns g m news, SrcInts w A xv ns s₁ ∧ ns.length ≤ 1000 ∧ Fr g env.locals s₁.heap m ∧ News g env.locals s₁.heap news ∧ CTests w A env scope cl x ifs s₁ ns p ∧ CElts w A env scope cl x elt s₁ ns p F ∧
      ∀ D' h' tk ys n, Fr g env.locals h' m → News g env.locals h' ((D', listOf (List.toArray ys) n) :: news) → AllNe D' news → Paired F (ns.filter p) ys → Q (.ref D') { s₁ with heap := h', toks := tk })) E s) :
    wpAny (model PG w) A (eval (.ListComp elt [⟨.Name x px, iter, ifs, 0⟩] scope pos) env) Q E s := by
  refine wpAny_ListComp_free (pvOf p) (fun (v y : Value) => ∃ n t, v = Value.int n t ∧ F n y) hclos hcell hkind hnames hx (wpAny_mono h (fun xv s₁ h₁ => ?_) fun _ _ e => e) hs
  obtain ⟨ns, g, m, news, src, hn, Fz, Nz, ht, he, hQ⟩ := h₁
  refine comp_core src hn ht he ?_
  intro I fp o P St hI hso W hst hfp hq hpair
  refine ⟨I, fp, [I], _, P, St, rfl, W, Nat.le_trans hn (by rw [sizeLine_eq]; omega), hst, hfp, hq, ?_⟩
  intro D' h' tk ys vs hD' _ hpl hlen hP hpa hk
  have hst : s₁.heap.StaysIn h' := fun b o' e => hk b o' (by
    intro hm
    rw [List.mem_singleton.mp hm] at e
    rw [hI] at e; cases e) (Heap.get?_push_of_some _ e)
  have hD0 : s₁.heap.get? D' = none := by
    cases e : s₁.heap.get? D' with
    | none => rfl
    | some o' => rw [show ({ s₁ with heap := s₁.heap.push o } : Shared).heap.get? D' = some o' from Heap.get?_push_of_some _ e] at hD'; cases hD'
  have F' := Fz.keeps hst
  have N' := News.keeps Nz hst
  have hgD : g.get? D' = none := by
    cases e : g.get? D' with
    | none => rfl
    | some o' => rw [Fz.keep _ _ e] at hD0; cases hD0
  have hDL : D' ≠ env.locals := by
    rintro rfl
    obtain ⟨o', _, _, ho, _⟩ := Fz.ns
    rw [ho] at hD0; cases hD0
  obtain ⟨n, hn'⟩ := hpl
  refine hQ D' h' tk ys.toList n F' ?_ ?_ ?_
  · intro q hq
    rcases List.mem_cons.mp hq with rfl | hq
    · exact ⟨by simpa using hn', hDL, hgD⟩
    · exact N' q hq
  · refine allNe_of fun q hq e => ?_
    have := (Nz q hq).1
    rw [e, hD0] at this
    cases this
  · exact hpair vs ys.toList hlen hP hpa
theorem assigncomp_ints {E : Value → Shared → Prop} {env : Env} {scope : Scope} {cl : List (Str × Addr)} {x y : Str} {px py pos spos : Pos} {ifs : List PySem.Expr} {elt iter : PySem.Expr} (F : Int → Value → Prop) (p : Int → Bool) {Q : Flow → Shared → Prop}
    (hsw : swapsWith (.ListComp elt [⟨.Name x px, iter, ifs, 0⟩] scope pos) (some (.Name y py)) spos.line env = pure true)
    (hclos : closureFor scope env = pure cl) (hcell : ∀ y ∈ scope.names, y.2 ≠ .cell) (hkind : scope.kind = .function) (hnames : ∀ y ∈ scope.names, y.2 = .local → scope.names.lookup y.1 = some .local) (hx : scope.names.lookup x = some .local)
    (hy : env.kindOf y = some .local) (hp : (env.scope.kind == .class || (env.scope.kind == .module && env.locals != env.globals)) = false)
    (hs : ∀ x, foldedSetIterable iter env x = pure x)
    (h : wpAny (model PG w) A (eval iter env) (fun xv s₁ => Hold (∃ ns g m news, SrcInts w A xv ns s₁ ∧ ns.length ≤ 1000 ∧ Fr g env.locals s₁.heap m ∧ News g env.locals s₁.heap news ∧ CTests w A env scope cl x ifs s₁ ns p ∧ CElts w A env scope cl x elt s₁ ns p F ∧
      ∀ D' h' tk ys n, Fr g env.locals h' (fun z => if z = y then some (.ref D') else m z) → News g env.locals h' ((D', listOf (List.toArray ys) n) :: news) → AllNe D' news → Paired F (ns.filter p) ys → Q .next { s₁ with heap := h', toks := tk })) E s) :
    wpAny (model PG w) A (exec (.Assign [.Name y py] (.ListComp elt [⟨.Name x px, iter, ifs, 0⟩] scope pos) spos) env) Q E s := by
  refine wpAny_Assign_ListComp_free (pvOf p) (fun (v y : Value) => ∃ n t, v = Value.int n t ∧ F n y) hsw hclos hcell hkind hnames hx hy hp (wpAny_mono h (fun xv s₁ h₁ => ?_) fun _ _ e => e) hs
  obtain ⟨ns, g, m, news, src, hn, Fz, Nz, ht, he, hQ⟩ := h₁
  refine comp_core src hn ht he ?_
  intro I fp o P St hI hso W hst hfp hq hpair
  have hLI : env.locals ∉ [I] := by
    intro hm
    obtain ⟨o', _, _, ho, _⟩ := Fz.ns
    rw [List.mem_singleton.mp hm, hI] at ho
    cases ho
  refine ⟨I, fp, [I], _, P, St, m, rfl, W, Nat.le_trans hn (by rw [sizeLine_eq]; omega), hst, hfp, hLI, (Fz.push o).ns, hq, ?_⟩
  intro D' h' tk ys vs hD' _ hpl hlen hP hpa hns hk
  have hst : ∀ b o', b ≠ env.locals → s₁.heap.get? b = some o' → h'.get? b = some o' := fun b o' hb e => hk b o' hb (by
    intro hm
    rw [List.mem_singleton.mp hm] at e
    rw [hI] at e; cases e) (Heap.get?_push_of_some _ e)
  have hD0 : s₁.heap.get? D' = none := by
    cases e : s₁.heap.get? D' with
    | none => rfl
    | some o' => rw [show ({ s₁ with heap := s₁.heap.push o } : Shared).heap.get? D' = some o' from Heap.get?_push_of_some _ e] at hD'; cases hD'
  have hLg : ∀ b o', g.get? b = some o' → b ≠ env.locals := fun b o' e => Nat.ne_of_lt (Nat.lt_of_lt_of_le (Heap.lt_size e) Fz.above)
  have F' : Fr g env.locals h' (fun z => if z = y then some (.ref D') else m z) := ⟨hns, fun b o' e => hst b o' (hLg b o' e) (Fz.keep b o' e), Fz.above⟩
  have hgD : g.get? D' = none := by
    cases e : g.get? D' with
    | none => rfl
    | some o' => rw [Fz.keep _ _ e] at hD0; cases hD0
  have hDL : D' ≠ env.locals := by
    rintro rfl
    obtain ⟨o', _, _, ho, _⟩ := Fz.ns
    rw [ho] at hD0; cases hD0
  obtain ⟨n, hn'⟩ := hpl
  refine hQ D' h' tk ys.toList n F' ?_ ?_ ?_
  · intro q hq
    rcases List.mem_cons.mp hq with rfl | hq
    · exact ⟨by simpa using hn', hDL, hgD⟩
    · have := Nz q hq
      exact ⟨hst _ _ this.2.1 this.1, this.2⟩
  · refine allNe_of fun q hq e => ?_
    have := (Nz q hq).1
    rw [e, hD0] at this
    cases this
  · exact hpair vs ys.toList hlen hP hpa
theorem paired_ints {f : Int → Int} {ns : List Int} {ys : List Value} (r : Paired (fun n y => ∃ t, y = .int (f n) t) ns ys) : IntsAre ys (ns.map f) := by
  induction r with
  | nil => exact .nil
  | cons h _ ih => obtain ⟨t, rfl⟩ := h; exact .cons _ _ ih
theorem paired_strs {f : Int → Str} {ns : List Int} {ys : List Value} (r : Paired (fun n y => ∃ t, y = .str (f n) t) ns ys) : StrsAre ys (ns.map f) := by
  induction r with
  | nil => exact .nil
  | cons h _ ih => obtain ⟨t, rfl⟩ := h; exact .cons _ _ ih
end
section
local macro_rules | `(tactic| walk_at $s:str) => if ["exec For Name Attribute cons nil", "exec For Name Subscript cons nil", "exec For Name Name cons nil", "exec For Name Call cons nil", "exec While", "eval ListComp", "setItem", "setItem ref int", "setItem ref int str", "subscriptTail Name UnaryOp ref int", "subscriptTail Name Subscript ref int", "subscriptTail Name Name ref int", "subscriptTail Name UnaryOp Constant ref int", "subscriptTail Name Subscript Name UnaryOp ref int", "call builtin:list.pop cons nil", "compareOp NotEq ref ref", "compareOp Eq ref ref", "compareOp In int ref", "call builtin:str.join cons nil", "subscriptTail Name BinOp ref int", "subscriptTail Name Slice ref ref"].contains s.getString then `(tactic| (refine Hold.mk ?_)) else `(tactic| fail)
local macro_rules | `(tactic| walk_at "eval Name") => `(tactic| (k_here; k_dflt (refine' nameX_L ?F ?v ?_ ?a ?b; (case F => k_asm); (case a => rfl); (case b => rfl); (case v => assumption); k_whole)))
local macro_rules | `(tactic| walk_at "no such place") => `(tactic| fail)
local macro_rules | `(tactic| walk_at "no such place") => `(tactic| fail)
local macro_rules | `(tactic| walk_at "no such place") => `(tactic| fail)
local macro_rules | `(tactic| walk_at "no such place") => `(tactic| fail)
local macro_rules | `(tactic| walk_at "no such place") => `(tactic| fail)
local macro_rules | `(tactic| walk_at "no such place") => `(tactic| fail)
local macro_rules | `(tactic| walk_at "no such place") => `(tactic| fail)
variable {w : World} {mean : ExcName → Option Value} {mg mb : Str → Option Value} {A : Around} {base : Heap} {outer : List Env} {s : Shared}
-- RSp
noncomputable def TOKS : List (Str × Int) := [(Str.ofString "!", 54), (Str.ofString "!=", 28), (Str.ofString "%", 24), (Str.ofString "%=", 40), (Str.ofString "&", 19), (Str.ofString "&=", 41), (Str.ofString "(", 7), (Str.ofString ")", 8), (Str.ofString "*", 16), (Str.ofString "**", 35), (Str.ofString "**=", 46), (Str.ofString "*=", 38), (Str.ofString "+", 14), (Str.ofString "+=", 36), (Str.ofString ",", 12), (Str.ofString "-", 15), (Str.ofString "-=", 37), (Str.ofString "->", 51), (Str.ofString ".", 23), (Str.ofString "...", 52), (Str.ofString "/", 17), (Str.ofString "//", 47), (Str.ofString "//=", 48), (Str.ofString "/=", 39), (Str.ofString ":", 11), (Str.ofString ":=", 53), (Str.ofString ";", 13), (Str.ofString "<", 20), (Str.ofString "<<", 33), (Str.ofString "<<=", 44), (Str.ofString "<=", 29), (Str.ofString "=", 22), (Str.ofString "==", 27), (Str.ofString ">", 21), (Str.ofString ">=", 30), (Str.ofString ">>", 34), (Str.ofString ">>=", 45), (Str.ofString "@", 49), (Str.ofString "@=", 50), (Str.ofString "[", 9), (Str.ofString "]", 10), (Str.ofString "^", 32), (Str.ofString "^=", 43), (Str.ofString "{", 25), (Str.ofString "|", 18), (Str.ofString "|=", 42), (Str.ofString "}", 26), (Str.ofString "~", 31)]

noncomputable def litOf : List DictEntry → List (Str × Value)
  | [] => []
  | e :: r => (match e.key with | .str x _ => (x, e.val) | _ => (Str.empty, e.val)) :: litOf r
noncomputable def intOf : Value → Option Int
  | .int n _ => some n
  | _ => none
theorem intOf_eq {v : Value} {n : Int} (h : intOf v = some n) : ∃ t, v = .int n t := by
  cases v <;> simp [intOf] at h
  exact ⟨_, by rw [h]⟩
open PySem.Spec PyProof.V
theorem toks_item {l : List (Str × Value)} (h : l.map (fun p => (p.1, intOf p.2)) = TOKS.map (fun p => (p.1, some p.2))) (i : Nat) (k : Str) (x : Value) (hi : l[i]? = some (k, x)) : ∃ n u, x = .int n u ∧ TOKS[i]? = some (k, n) := by
  have h1 : (l.map (fun p => (p.1, intOf p.2)))[i]? = some (k, intOf x) := by rw [List.getElem?_map, hi]; rfl
  rw [h, List.getElem?_map] at h1
  cases e : TOKS[i]? with
  | none => rw [e] at h1; cases h1
  | some p =>
    rw [e] at h1
    obtain ⟨p1, p2⟩ := p
    simp only [Option.map_some, Option.some.injEq, Prod.mk.injEq] at h1
    obtain ⟨rfl, h2⟩ := h1
    obtain ⟨t, rfl⟩ := intOf_eq h2.symm
    exact ⟨_, _, rfl, rfl⟩
theorem pairs_lit {P : Params} : ∀ {es : List DictEntry}, KeysLit P es → Pairs (strKind PG w) es (litOf es)
  | [], _ => .nil
  | e :: r, h => by
    obtain ⟨⟨x, t, e1, _⟩, hr⟩ := h
    unfold litOf
    rw [e1]
    exact .cons (by rw [e1]; exact strKind_is PG w x t) rfl (pairs_lit hr)
theorem dictAt_lit {es : List DictEntry} {n : Nat} {h : Heap} {a : Addr} (ho : h.get? a = some ⟨.type "dict", none, .dict es.toArray n, #[]⟩) (hk : KeysLit w.params es) (hn : ((litOf es).map (·.1)).Nodup) : h.DictAt (strKind PG w) a (litOf es) n :=
  ⟨_, es.toArray, ho, ⟨rfl, rfl, rfl⟩, rfl, fun e he => by
    obtain ⟨x, t, e1, e2⟩ := hk.all e (by simpa using he)
    exact ⟨x, by rw [e1]; exact strKind_is PG w x t, e2⟩, pairs_lit hk, hn⟩
noncomputable def spStep (D : List (PyData × PyData)) (p : Str × Int) : List (PyData × PyData) := putD (.int p.2) (.str p.1) D
noncomputable def SPD : List (PyData × PyData) := TOKS.foldl spStep []
theorem updF_own {d : Addr} {o : Obj} : ∀ {own : List (Addr × Obj)}, (∀ p ∈ own, p.1 ≠ d) → UpdF d o (own ++ [(d, o)]) (fun o' => own ++ [(d, o')])
  | [], _ => .head (fun _ h => nomatch h)
  | p :: r, h => .tail (h _ (.head _)) (updF_own fun q hq => h q (.tail _ hq))

theorem toks_nodup : (TOKS.map (·.1)).Nodup := by decide +kernel
theorem top_dict (w : World) : ∃ es ep, (pHeap w.params).lookup 64 = some ⟨.type "dict", none, .dict (List.toArray es) ep, #[]⟩ ∧ KeysLit w.params es ∧ (litOf es).map (fun p => (p.1, intOf p.2)) = TOKS.map (fun p => (p.1, some p.2)) := by
  refine ⟨_, _, by k_is, by k_keys, ?_⟩
  rfl

theorem spd_len : ∀ (l : List (Str × Int)) (D : List (PyData × PyData)), (l.foldl spStep D).length ≤ D.length + l.length
  | [], D => by simp
  | p :: r, D => by
    rw [List.foldl_cons, List.length_cons]
    have h1 := spd_len r (spStep D p)
    have h2 : (spStep D p).length ≤ D.length + 1 := putD_length_le _ _ _
    omega
theorem spd_succ {i : Nat} {k : Str} {n : Int} (h : TOKS[i]? = some (k, n)) : (TOKS.take (i + 1)).foldl spStep [] = putD (.int n) (.str k) ((TOKS.take i).foldl spStep []) := by
  rw [List.take_add_one, h, List.foldl_append]
  rfl

theorem spelled_spec {R : Result → Shared → Prop} {k : Nat} (C : Cx w mean mg mb (k + 2) A base outer s.heap)
    (hR : ∀ a h' tk o kvs, s.heap.StaysIn h' → s.heap.get? a = none → h'.get? a = some o → (a == sysModules) = false → o.IsDictOf (intKind PG w) kvs → PyProof.V.FlatPairs PyData.int kvs SPD → R (.ok (.ret (.ref a))) { s with heap := h', toks := tk }) :
    codeAny (MM w) A (.call (.ref 80) ⟨[], []⟩) R s := by
  refine enter C (by k_is) (by k_is) (BindsTo.of_eq rfl) (locs rfl) rfl rfl rfl (by decide) ?_
  intro L h₁ tk F N C'
  have X := C.X
  have T := C.T
  have B := C.B
  k_steps
  rename Fr _ _ _ _ => F2
  rename News _ _ _ _ => N2
  rename_i dd _ o0 lo _ _ hi0 fi0 _ hc
  obtain ⟨es, ep, hes, hkl, htk⟩ := top_dict w
  have hnd : ((litOf es).map (·.1)).Nodup := by
    have e : (litOf es).map (·.1) = TOKS.map (·.1) := by
      have := congrArg (List.map (·.1)) htk
      rw [List.map_map, List.map_map] at this
      exact this
    rw [e]; exact toks_nodup
  have hlen : (litOf es).length = TOKS.length := by
    have := congrArg List.length htk
    rw [List.length_map, List.length_map] at this
    exact this
  have h64 : s.heap.get? 64 = some ⟨.type "dict", none, .dict (List.toArray es) ep, #[]⟩ := X _ _ hes
  have hm : (Fr.ns F2) = (Fr.ns F2) := rfl
  have hat := dictAt_lit (w := w) (F2.keep _ _ h64) hkl hnd
  have hdn := (N2 _ (.head _)).2
  have hd64 : dd ≠ 64 := fun e => by rw [e, h64] at hdn; exact absurd hdn.2 (by simp)
  have hL64 : L ≠ 64 := fun e => by
    have := F2.above
    rw [e] at this
    exact absurd (Heap.lt_size h64) (Nat.not_lt.mpr this)
  refine For_turns (h₀ := s.heap) F2 ?_
  refine wpAny_Call_items (knd := strKind PG w) (d := 64) (by decide) hat.dictOf rfl rfl ?_ ?_
  · intro Q' hQ'
    exact name_K F2 X (by k_asm) (by k_is) hQ'
  refine wpAny_pyIter_items (knd := strKind PG w) (kvs := litOf es) (ep := ep) ⟨_, Heap.get?_push_size _ rfl, rfl, rfl⟩ (hat.push _) ?_
  have hLI : L < (s.heap.objs.size + 1) ∨ True := .inr trivial
  have hLlt := F2.ns.lt
  have hddlt := Heap.lt_size (N2 _ (.head _)).1
  have h64lt := Heap.lt_size (F2.keep _ _ h64)
  have hsz : (hc.push { cls := .type "dict_items", data := .fields #[.ref 64] }).objs.size = hc.objs.size + 1 := Heap.size_push ..
  refine ⟨_, _, _, _, _, _, _, _, [(dd, o0)], fun i m news => ∃ o kvs, news = [(dd, o)] ∧ m (Str.ofString "spelled") = some (.ref dd) ∧ o.IsDictOf (intKind PG w) kvs ∧ FlatPairs PyData.int kvs ((TOKS.take i).foldl spStep []), rfl,
    kti_itemsTurns (knd := strKind PG w) C'.hh _ 64 ?_ (litOf es) ep, ?_, ?_, ?_, ⟨⟨_, _, Heap.get?_push_size _ rfl⟩, (hat.push _).push _⟩, (F2.push _).push _, ?_, ⟨o0, [], rfl, rfl, hi0, fi0⟩, ?_, ?_⟩
  · show 64 ≠ (hc.push _).objs.size
    rw [hsz]; exact Nat.ne_of_lt (Nat.lt_succ_of_lt h64lt)
  · intro hm
    rcases List.mem_cons.mp hm with e | hm
    · have e' : L = (hc.push { cls := .type "dict_items", data := .fields #[.ref 64] }).objs.size := e
      rw [hsz] at e'
      rw [e'] at hLlt
      exact absurd hLlt (Nat.not_lt.mpr (Nat.le_succ _))
    · exact hL64 (List.mem_singleton.mp hm)
  · intro b hb
    rw [List.mem_singleton.mp hb]
    exact new_none F2 (Nat.le_trans (Nat.le_succ _) (Nat.le_of_eq hsz.symm))
  · intro p hp hm
    rw [List.mem_singleton.mp hp] at hm
    have e' : dd = (hc.push { cls := .type "dict_items", data := .fields #[.ref 64] }).objs.size := List.mem_singleton.mp hm
    rw [hsz] at e'
    have h' : dd < hc.objs.size := hddlt
    rw [e'] at h'
    exact absurd h' (Nat.not_lt.mpr (Nat.le_succ _))
  · intro p hp
    exact ⟨Heap.get?_push_of_some _ (Heap.get?_push_of_some _ (N2 p hp).1), (N2 p hp).2⟩
  · rintro i v m₁ news₁ h₃ tk₃ own hi ⟨T, key, k', x, rfl, hki, hkey, hT⟩ ⟨o, kvs, rfl, hm1, hdo, hfl⟩ hw hown1 hown2 hown3 hst F4 N4
    obtain ⟨n, u, rfl, hti⟩ := toks_item htk i k' x hki
    have hofd : ∀ p ∈ own, p.1 ≠ dd := by
      intro p hp e
      have hne := hw (dd, o) (.head _)
      rcases List.mem_cons.mp (hown1 p hp) with e1 | e1
      · exact hne (by rw [← e, e1]; exact .head _)
      · exact hd64 (e ▸ List.mem_singleton.mp e1)
    clear hown1 hown2 hown3
    obtain ⟨tkk, rfl⟩ : ∃ t, key = .str k' t := by
      cases key <;> simp [PySem.strKind, Value.isStrOf] at hkey
      exact ⟨_, by rw [hkey]⟩
    have IT : IsTup h₃ T #[.str k' tkk, .int n u] := hT
    refine unpackN_ F4 N4 IT C'.hh rfl rfl fun h₅ F5 N5 => ?_
    clear F4 N4
    k_steps
    refine Hold.of ?_
    rename Fr _ _ _ _ => F8
    rename News _ _ _ _ => N8
    refine setItem_K same_int (intKind_is PG w n u) (PyProof.V.Flat.str k' tkk) F8 N8 (updF_own hofd) hdo hfl ?_ ?_
    · intro h9 o9 F9 N9 hdo9 hfl9
      k_steps
      refine LoopStepU.intro F9 N9 ?_ ?_
      · intro p hp
        rw [List.mem_singleton.mp hp]
        exact hw (dd, o) (.head _)
      · exact ⟨o9, _, rfl, hm1, hdo9, by rw [spd_succ hti]; exact hfl9⟩
    · have h1 := spd_len (TOKS.take i) []
      rw [List.length_take] at h1
      rw [sizeLine_eq]
      have h2 : min i TOKS.length ≤ TOKS.length := Nat.min_le_right _ _
      have h3 : TOKS.length = 48 := rfl
      simp only [List.length_nil] at h1
      omega
  · rintro h' tk' m' news' F4 N4 _ ⟨o, kvs, rfl, hm1, hdo, hfl⟩
    dsimp only
    k_steps
    refine hR dd _ _ o kvs F4.keep (N4 _ (.head _)).2.2 (N4 _ (.head _)).1 lo hdo ?_
    rw [hlen, List.take_length] at hfl
    exact hfl
end
section
local macro_rules | `(tactic| walk_at $s:str) => if ["exec For Name Attribute cons nil", "exec For Name Subscript cons nil", "exec For Name Name cons nil", "exec For Name Call cons nil", "exec For Tuple Call cons nil", "exec While", "pyIter ref", "eval ListComp", "call ref", "subscriptTail Name UnaryOp ref int", "subscriptTail Name Subscript ref int", "subscriptTail Name Name ref int", "subscriptTail Name UnaryOp Constant ref int", "subscriptTail Name Subscript Name UnaryOp ref int", "call builtin:list.append cons nil", "call builtin:list.pop cons nil", "compareOp NotEq ref ref", "compareOp Eq ref ref", "compareOp In int ref", "call builtin:str.join cons nil", "subscriptTail Name BinOp ref int", "subscriptTail Name Slice ref ref"].contains s.getString then `(tactic| (refine Hold.mk ?_)) else `(tactic| fail)
local macro_rules | `(tactic| walk_at "eval Name") => `(tactic| (k_here; k_dflt (refine' nameX_L ?F ?v ?_ ?a ?b; (case F => k_asm); (case a => rfl); (case b => rfl); (case v => assumption); k_whole)))
variable {w : World} {mean : ExcName → Option Value} {mg mb : Str → Option Value} {A : Around} {base : Heap} {outer : List Env} {s : Shared}
-- RTxt
section
local macro_rules | `(tactic| walk_at "subscriptTail List Name ref int") => `(tactic| (refine Hold.mk ?_))
local macro_rules | `(tactic| walk_at "no such place") => `(tactic| fail)
local macro_rules | `(tactic| walk_at "no such place") => `(tactic| fail)
local macro_rules | `(tactic| walk_at "no such place") => `(tactic| fail)
local macro_rules | `(tactic| walk_at "no such place") => `(tactic| fail)
local macro_rules | `(tactic| walk_at "no such place") => `(tactic| fail)
local macro_rules | `(tactic| walk_at "no such place") => `(tactic| fail)
local macro_rules | `(tactic| walk_at "no such place") => `(tactic| fail)


open PySem.Spec PyProof.V
theorem iseof_spec {n : Int} {t : Tok} {R : Result → Shared → Prop} {k : Nat} (C : Cx w mean mg mb (k + 1) A base outer s.heap)
    (hR : ∀ h' tk, s.heap.StaysIn h' → R (.ok (.ret (.bool (decide (n = 0))))) { s with heap := h', toks := tk }) :
    codeAny (MM w) A (.call (.ref 73) ⟨[.int n t], []⟩) R s := by
  refine enter C (by k_is) (by k_is) (BindsTo.of_eq rfl) (locs rfl) rfl rfl rfl (by decide) ?_
  intro L h₁ tk F N C'
  have X := C.X
  have T := C.T
  have B := C.B
  k_steps
  exact hR _ _ F.keep
theorem item_sp {prog : Program} {E : Value → Shared → Prop} {value slice : PySem.Expr} {d : Addr} {i : Int} {t : Tok} {x : Str} {Q : Value → Shared → Prop} (T : IntTab prog w s.heap d SPD) (hl : PySem.Spec.lookup (.int i) SPD = some (.str x))
    (h : ∀ t', Q (.str x t') { s with toks := s.toks + 1 })
    (hs : subscripted slice false (.ref d) (.int i t) = operate [.ref d, .int i t] (getItem (.ref d) (.int i t)) := by with_unfolding_all rfl) (hg : ∀ r, letTemporaryGo value (.ref d) r = pure () := by intro _; with_unfolding_all rfl) :
    wpAny (model prog w) A (subscriptTail value slice (.ref d) (.int i t)) Q E s :=
  item_intTab T hl (fun v hv => by have h9 := hv s.heap; cases h9; exact h _) hs hg
theorem spl7 : PySem.Spec.lookup (.int 7) SPD = some (.str (Str.ofString "(")) := by kernel_rfl
theorem spl8 : PySem.Spec.lookup (.int 8) SPD = some (.str (Str.ofString ")")) := by kernel_rfl
theorem spl9 : PySem.Spec.lookup (.int 9) SPD = some (.str (Str.ofString "[")) := by kernel_rfl
theorem spl10 : PySem.Spec.lookup (.int 10) SPD = some (.str (Str.ofString "]")) := by kernel_rfl
theorem spl25 : PySem.Spec.lookup (.int 25) SPD = some (.str (Str.ofString "{")) := by kernel_rfl
theorem spl26 : PySem.Spec.lookup (.int 26) SPD = some (.str (Str.ofString "}")) := by kernel_rfl
theorem spl54 : PySem.Spec.lookup (.int 54) SPD = some (.str (Str.ofString "!")) := by kernel_rfl
theorem spl17 : PySem.Spec.lookup (.int 17) SPD = some (.str (Str.ofString "/")) := by kernel_rfl
theorem spl16 : PySem.Spec.lookup (.int 16) SPD = some (.str (Str.ofString "*")) := by kernel_rfl

/-- the numbers and the signs of the figures -/
noncomputable def NUMS : List Int := [7, 8, 9, 10, 25, 26, 54, 17, 16, 0, 7, 9, 25, 7, 9, 25]
noncomputable def SIGA : List String := ["(", ")", "[", "]", "{", "}", "!", "/", "*", "", "(", "[", "{", "(", "[", "{"]
noncomputable def SIGB : List String := ["", "", "", "", "", "", "", "", "", "", ")", "]", "}", ")", "]", "}"]
noncomputable def numF (f : Int) : Int := NUMS.getD f.toNat 0
noncomputable def sgA (f : Int) : Str := Str.ofString (SIGA.getD f.toNat "")
noncomputable def sgB (f : Int) : Str := Str.ofString (SIGB.getD f.toNat "")
/-- the text of the told signs -/
noncomputable def txtStep (t : Str) (f : Int) : Str := if f < 10 then t ++ sgA f else if f < 13 then t ++ sgA f ++ sgB f else sgA f ++ t ++ sgB f
theorem fig_cases {f : Int} (h0 : 0 ≤ f) (h1 : f < 16) : ∃ k : Fin 16, f = (k.val : Int) := ⟨⟨f.toNat, by omega⟩, by show f = ((f.toNat : Nat) : Int); omega⟩
theorem spA_fin : ∀ k : Fin 16, k.val ≠ 9 → PySem.Spec.lookup (.int (numF (k.val : Int))) SPD = some (.str (sgA (k.val : Int)))
  | ⟨0, _⟩, _ => spl7
  | ⟨1, _⟩, _ => spl8
  | ⟨2, _⟩, _ => spl9
  | ⟨3, _⟩, _ => spl10
  | ⟨4, _⟩, _ => spl25
  | ⟨5, _⟩, _ => spl26
  | ⟨6, _⟩, _ => spl54
  | ⟨7, _⟩, _ => spl17
  | ⟨8, _⟩, _ => spl16
  | ⟨9, _⟩, h => absurd rfl h
  | ⟨10, _⟩, _ => spl7
  | ⟨11, _⟩, _ => spl9
  | ⟨12, _⟩, _ => spl25
  | ⟨13, _⟩, _ => spl7
  | ⟨14, _⟩, _ => spl9
  | ⟨15, _⟩, _ => spl25
  | ⟨n + 16, h⟩, _ => absurd h (by omega)
theorem spB_fin : ∀ k : Fin 6, PySem.Spec.lookup (.int (numF ((k.val + 10 : Nat) : Int) + 1)) SPD = some (.str (sgB ((k.val + 10 : Nat) : Int)))
  | ⟨0, _⟩ => spl8
  | ⟨1, _⟩ => spl10
  | ⟨2, _⟩ => spl26
  | ⟨3, _⟩ => spl8
  | ⟨4, _⟩ => spl10
  | ⟨5, _⟩ => spl26
  | ⟨n + 6, h⟩ => absurd h (by omega)
theorem spA {f : Int} (h0 : 0 ≤ f) (h1 : f < 16) (h9 : f ≠ 9) : PySem.Spec.lookup (.int (numF f)) SPD = some (.str (sgA f)) := by
  obtain ⟨k, rfl⟩ := fig_cases h0 h1
  exact spA_fin k (by omega)
theorem spB {f : Int} (h0 : 0 ≤ f) (h1 : f < 16) (h10 : 10 ≤ f) : PySem.Spec.lookup (.int (numF f + 1)) SPD = some (.str (sgB f)) := by
  obtain ⟨k, rfl⟩ : ∃ k : Fin 6, f = ((k.val + 10 : Nat) : Int) := ⟨⟨f.toNat - 10, by omega⟩, by show f = ((f.toNat - 10 + 10 : Nat) : Int); omega⟩
  exact spB_fin k
theorem num_zero {f : Int} (h0 : 0 ≤ f) (h1 : f < 16) : numF f = 0 ↔ f = 9 := by
  obtain ⟨k, rfl⟩ := fig_cases h0 h1
  have : ∀ k : Fin 16, numF (k.val : Int) = 0 ↔ (k.val : Int) = 9 := by decide +kernel
  exact this k
theorem sg_len {f : Int} (h0 : 0 ≤ f) (h1 : f < 16) : (sgA f).length ≤ 1 ∧ (sgB f).length ≤ 1 := by
  obtain ⟨k, rfl⟩ := fig_cases h0 h1
  have : ∀ k : Fin 16, (sgA (k.val : Int)).length ≤ 1 ∧ (sgB (k.val : Int)).length ≤ 1 := by decide +kernel
  exact this k
noncomputable def textF (ns : List Int) : Str := (cutAt9 ns).foldl txtStep (Str.ofString "")

theorem cut_self : ∀ {ns : List Int}, (∀ x ∈ ns, x ≠ 9) → cutAt9 ns = ns
  | [], _ => rfl
  | n :: r, h => by
    unfold cutAt9
    rw [List.takeWhile_cons, if_pos (by simpa using h n (.head _))]
    have := cut_self (ns := r) fun x hx => h x (.tail _ hx)
    unfold cutAt9 at this
    rw [this]
theorem cut_here : ∀ {ns : List Int} {i : Nat}, (∀ x ∈ ns.take i, x ≠ 9) → ns[i]? = some 9 → cutAt9 ns = ns.take i
  | [], i, _, h => by simp at h
  | n :: r, 0, _, h => by
    simp at h
    subst h
    rfl
  | n :: r, i + 1, hn, h => by
    unfold cutAt9
    rw [List.takeWhile_cons, if_pos (by simpa using hn n (by simp))]
    have := cut_here (ns := r) (i := i) (fun x hx => hn x (by rw [List.take_succ_cons]; exact .tail _ hx)) (by simpa using h)
    unfold cutAt9 at this
    rw [this, List.take_succ_cons]
theorem noadd {ns : List Int} {i : Nat} {f : Int} (h : ∀ x ∈ ns.take i, x ≠ 9) (hf : ns[i]? = some f) (h9 : f ≠ 9) : ∀ x ∈ ns.take (i + 1), x ≠ 9 := by
  rw [List.take_add_one, hf]
  intro x hx
  rcases List.mem_append.mp hx with hx | hx
  · exact h x hx
  · rw [List.mem_singleton.mp hx]; exact h9



theorem text_spec {l d : Addr} {vs : List Value} {ns : List Int} {R : Result → Shared → Prop} {k : Nat} (C : Cx w mean mg mb (k + 2) A base outer s.heap) (hl : s.heap.IsList l vs.toArray) (hi : IntsAre vs ns) (hlen : ns.length ≤ 10) (hns : ∀ n ∈ ns, 0 ≤ n ∧ n < 16) (T0 : IntTab PG w s.heap d SPD)
    (hR : ∀ h' tk tok, s.heap.StaysIn h' → R (.ok (.ret (.str (textF ns) tok))) { s with heap := h', toks := tk }) :
    codeAny (MM w) A (.call (.ref 87) ⟨[.ref l, .ref d], []⟩) R s := by
  refine enter C (by k_is) (by k_is) (BindsTo.of_eq rfl) (locs rfl) rfl rfl rfl (by decide) ?_
  intro L h₁ tk F N C'
  have X := C.X
  have T := C.T
  have B := C.B
  k_steps
  refine Hold.of ?_
  refine' wpAny_For ?_ ?hs
  case hs => intro _; rfl
  k_steps
  refine Hold.of ?_
  rename Fr _ _ _ _ => F2
  refine for_list (g := s.heap) C'.hh (hl.at fun o e => F2.keep _ _ e) F2 [] (by simp) (by simp)
    (fun i m h => m (Str.ofString "spelled") = some (.ref d) ∧ (∀ x ∈ ns.take i, x ≠ 9) ∧ ∃ t tok, m (Str.ofString "text") = some (.str t tok) ∧ t = (ns.take i).foldl txtStep (Str.ofString "") ∧ t.length ≤ 2 * i)
    ⟨rfl, by simp, _, _, rfl, rfl, by decide +kernel⟩ (fun _ _ _ _ a _ => a) ?_ ?_
  · rintro i v m₁ h tk hv ⟨hm1, hno, t, tok, hm2, htx, htl⟩ F3
    obtain ⟨f, tf, rfl, hfi⟩ := ints_item hi i v hv
    obtain ⟨hf0, hf1⟩ := hns f (List.mem_of_getElem? hfi)
    have hib : i < ns.length := by
      rcases Nat.lt_or_ge i ns.length with h | h
      · exact h
      · rw [List.getElem?_eq_none h] at hfi; cases hfi
    have htl2 : t.length ≤ 20 := by omega
    have N3 : News s.heap L h (restOf s.heap L [] h) := rest_news
    have T3 : IntTab PG w h d SPD := T0.keep F3.keep
    have F3s := And.intro F3 trivial
    refine wpAny_gen ?_
    intro K hK
    k_steps
    refine Hold.of ?_
    rename Fr _ _ _ _ => F4
    rename News _ _ _ _ => N4
    refine wpAny_call (iseof_spec (n := numF f) (C.deeper F4 rfl rfl) ?_)
    intro h5 tk5 st5
    have F5 := Fr.keeps F4 st5
    have N5 := News.keeps N4 st5
    have T5 : IntTab PG w h5 d SPD := T0.keep F5.keep
    clear F4 N4
    dsimp only
    by_cases h9 : f = 9
    · rw [decide_eq_true ((num_zero hf0 hf1).mpr h9)]
      subst h9
      have e : textF ns = t := by rw [htx]; unfold textF; rw [cut_here hno hfi]
      have hr := fun h' tk' => hR h' tk' tok
      rw [e] at hr
      k_steps
      refine hK _ _ ?_
      dsimp only [TurnEnd]
      k_steps
      rename Fr _ _ _ _ => F6
      exact hr _ _ F6.keep
    · rw [decide_eq_false (fun hz => h9 ((num_zero hf0 hf1).mp hz))]
      have hl1 := (sg_len hf0 hf1).1
      have hl2 := (sg_len hf0 hf1).2
      k_steps
      · rename f < 10 => hc
        refine Hold.of ?_
        rename Fr _ _ _ _ => F6
        refine' item_sp (T0.keep F6.keep) (spA hf0 hf1 h9) ?_ ?hs1 ?hg1
        case hs1 => with_unfolding_all rfl
        case hg1 => intro _; with_unfolding_all rfl
        intro tq1
        k_steps
        rename Fr _ _ _ _ => F8
        rename News _ _ _ _ => N8
        refine hK _ _ ?_
        refine' TurnEnd.next ?a F8 N8 ?b ?c
        case a => exact F3s.1
        case b => exact fun p hp => .tail _ hp
        case c =>
          refine ⟨hm1, noadd hno hfi h9, _, _, rfl, ?_, ?_⟩
          · rw [List.take_add_one, hfi, Option.toList_some, List.foldl_append, ← htx]
            show _ = txtStep t f
            unfold txtStep
            rw [if_pos hc]
          · simp only [Str.length_append]; omega
      · rename ¬ f < 10 => hc
        rename f < 13 => hd
        refine Hold.of ?_
        rename Fr _ _ _ _ => F6
        refine' item_sp (T0.keep F6.keep) (spA hf0 hf1 h9) ?_ ?hs1 ?hg1
        case hs1 => with_unfolding_all rfl
        case hg1 => intro _; with_unfolding_all rfl
        intro tq1
        k_steps
        refine Hold.of ?_
        rename Fr _ _ _ _ => F6
        refine' item_sp (T0.keep F6.keep) (spB hf0 hf1 (by omega)) ?_ ?hs2 ?hg2
        case hs2 => with_unfolding_all rfl
        case hg2 => intro _; with_unfolding_all rfl
        intro tq2
        k_steps
        rename Fr _ _ _ _ => F8
        rename News _ _ _ _ => N8
        refine hK _ _ ?_
        refine' TurnEnd.next ?a F8 N8 ?b ?c
        case a => exact F3s.1
        case b => exact fun p hp => .tail _ hp
        case c =>
          refine ⟨hm1, noadd hno hfi h9, _, _, rfl, ?_, ?_⟩
          · rw [List.take_add_one, hfi, Option.toList_some, List.foldl_append, ← htx]
            show _ = txtStep t f
            unfold txtStep
            rw [if_neg hc, if_pos hd]
          · simp only [Str.length_append]; omega
      · rename ¬ f < 10 => hc
        rename ¬ f < 13 => hd
        refine Hold.of ?_
        rename Fr _ _ _ _ => F6
        refine' item_sp (T0.keep F6.keep) (spA hf0 hf1 h9) ?_ ?hs1 ?hg1
        case hs1 => with_unfolding_all rfl
        case hg1 => intro _; with_unfolding_all rfl
        intro tq1
        k_steps
        refine Hold.of ?_
        rename Fr _ _ _ _ => F6
        refine' item_sp (T0.keep F6.keep) (spB hf0 hf1 (by omega)) ?_ ?hs2 ?hg2
        case hs2 => with_unfolding_all rfl
        case hg2 => intro _; with_unfolding_all rfl
        intro tq2
        k_steps
        rename Fr _ _ _ _ => F8
        rename News _ _ _ _ => N8
        refine hK _ _ ?_
        refine' TurnEnd.next ?a F8 N8 ?b ?c
        case a => exact F3s.1
        case b => exact fun p hp => .tail _ hp
        case c =>
          refine ⟨hm1, noadd hno hfi h9, _, _, rfl, ?_, ?_⟩
          · rw [List.take_add_one, hfi, Option.toList_some, List.foldl_append, ← htx]
            show _ = txtStep t f
            unfold txtStep
            rw [if_neg hc, if_neg hd]
          · simp only [Str.length_append]; omega
  · rintro h tk m₁ ⟨hm1, hno, t, tok, hm2, htx, htl⟩ F3
    dsimp only
    rw [hi.length, List.take_length] at hno htx
    have e : textF ns = t := by rw [htx]; unfold textF; rw [cut_self hno]
    have hr := fun h' tk' => hR h' tk' tok
    rw [e] at hr
    k_steps
    exact hr _ _ F3.keep
end
end
section
local macro_rules | `(tactic| walk_at $s:str) => if ["exec For Name Attribute cons nil", "exec For Name Subscript cons nil", "exec For Name Name cons nil", "exec For Name Call cons nil", "exec For Tuple Call cons nil", "exec While", "exec Assign cons ListComp", "eval ListComp", "subscriptTail Name UnaryOp ref int", "subscriptTail Name Subscript ref int", "subscriptTail Name Name ref int", "subscriptTail Name UnaryOp Constant ref int", "subscriptTail Name Subscript Name UnaryOp ref int", "call builtin:list.pop cons nil", "compareOp NotEq ref ref", "compareOp Eq ref ref", "compareOp In int ref", "call builtin:str.join cons nil", "subscriptTail Name BinOp ref int", "subscriptTail Name Slice ref ref"].contains s.getString then `(tactic| (refine Hold.mk ?_)) else `(tactic| fail)
local macro_rules | `(tactic| walk_at "pyIter ref") => `(tactic| ((with_reducible show wpAny _ _ (pyIter (Value.ref _)) (fun _ _ => codeAny _ _ _ _ _) _ _); refine Hold.mk ?_))
local macro_rules | `(tactic| walk_at "call ref") => `(tactic| ((first | (with_reducible show wpAny _ _ (call (Value.ref 94) _) _ _ _) | (with_reducible show wpAny _ _ (call (Value.ref 87) _) _ _ _) | (with_reducible show wpAny _ _ (call (Value.ref 106) _) _ _ _) | (with_reducible show wpAny _ _ (call (Value.ref 111) _) _ _ _) | (with_reducible show wpAny _ _ (call (Value.ref 118) _) _ _ _) | (with_reducible show wpAny _ _ (call (Value.ref 80) _) _ _ _)); refine Hold.mk ?_))
local macro_rules | `(tactic| walk_at "eval Name") => `(tactic| (k_here; k_dflt (refine' nameX_L ?F ?v ?_ ?a ?b; (case F => k_asm); (case a => rfl); (case b => rfl); (case v => assumption); k_whole)))
local macro_rules | `(tactic| walk_at "no such place") => `(tactic| fail)
local macro_rules | `(tactic| walk_at "no such place") => `(tactic| fail)
local macro_rules | `(tactic| walk_at "no such place") => `(tactic| fail)
local macro_rules | `(tactic| walk_at "no such place") => `(tactic| fail)
variable {w : World} {mean : ExcName → Option Value} {mg mb : Str → Option Value} {A : Around} {base : Heap} {outer : List Env} {s : Shared}
-- RFilt
namespace Fi
open Sem (wp)
theorem slot_filter_init : Slot "filter" "__init__" "object.__init__" := .of (owner := "object") (n := "__init__") (by rw [typeLookup_type, builtinLookup_eq_fast]; kernel_rfl) (by decide +kernel) (by decide +kernel) (by decide +kernel) (.inl (by decide +kernel)) (by rw [isSubtype_type]; kernel_rfl)
theorem slot_filter_next : Slot "filter" "__next__" "filter.__next__" := .of (owner := "filter") (n := "__next__") (by rw [typeLookup_type, builtinLookup_eq_fast]; kernel_rfl) (by decide +kernel) (by decide +kernel) (by decide +kernel) (.inl (by decide +kernel)) (by rw [isSubtype_type]; kernel_rfl)
theorem slot_filter_iter : Slot "filter" "__iter__" "filter.__iter__" := .of (owner := "filter") (n := "__iter__") (by rw [typeLookup_type, builtinLookup_eq_fast]; kernel_rfl) (by decide +kernel) (by decide +kernel) (by decide +kernel) (.inl (by decide +kernel)) (by rw [isSubtype_type]; kernel_rfl)
theorem mro_filter : mroOf (.type "filter") = pure [.type "filter", .type "object"] := by rw [mroOf_type]; kernel_rfl
theorem lookup_filter_new : typeLookup (.type "filter") "__new__" = pure (some (.builtin "filter.__new__")) := by rw [typeLookup_type, builtinLookup_eq_fast]; kernel_rfl
theorem called_filter : TypeCalled "filter" "filter.__new__" "object.__init__" :=
  ⟨by decide +kernel, by decide +kernel, ⟨_, _, mro_filter⟩, madeBy_type mro_filter lookup_filter_new (by decide +kernel), by decide +kernel, by rw [isSubtype_type]; kernel_rfl, slot_filter_init⟩
theorem typeCall_filter_2 (a b : Value) : checkTypeCall "filter" ⟨[a, b], []⟩ = pure () := by kernel_rfl
theorem newCall_filter_2 (a b : Value) : checkBuiltinCall "filter.__new__" ⟨[.type "filter", a, b], []⟩ = pure () := by kernel_rfl
theorem entry_filter_new : entryFor table "filter.__new__" = some Builtin.«filter.__new__» := entryFor_of_tree (by kernel_rfl)
theorem entry_filter_next : entryFor table "filter.__next__" = some Builtin.«filter.__next__» := entryFor_of_tree (by kernel_rfl)
theorem entry_filter_iter : entryFor table "filter.__iter__" = some Builtin.«dict_keyiterator.__iter__» :=
  entryFor_alias (id' := "dict_keyiterator.__iter__") (by kernel_rfl) (by first | rfl | decide +kernel | (unfold String.splitOn; simp +decide [String.splitOnAux])) (by decide +kernel) (by kernel_rfl)
theorem args_filter_next (a : Value) : argsOk "filter.__next__" ⟨[a], []⟩ := by unfold argsOk; kernel_rfl
theorem args_filter_iter (a : Value) : argsOk "filter.__iter__" ⟨[a], []⟩ := by unfold argsOk; kernel_rfl
theorem sub_filter : isSubtype (.type "filter") (.type "filter") = pure true := by rw [isSubtype_type]; kernel_rfl
theorem filter_no_len : typeLookup (.type "filter") "__len__" = pure none := by rw [typeLookup_type, builtinLookup_eq_fast]; kernel_rfl
theorem filter_no_hint : typeLookup (.type "filter") "__length_hint__" = pure none := by rw [typeLookup_type, builtinLookup_eq_fast]; kernel_rfl
end Fi
-- RFilt2
noncomputable abbrev IsFilter (h : Heap) (I : Addr) (f : Value) (it : Addr) : Prop := h.get? I = some { cls := .type "filter", dict := none, data := .fields #[f, .ref it], slots := #[] }
section
open Fi
variable {prog : Program} {E : Value → Shared → Prop}
theorem cs_list_end {it l : Addr} {Q : Option Value → Shared → Prop} (hh : A.handled = none) (hit : s.heap.IsListIter it l 0) (hl : s.heap.IsList l #[])
    (hE : ∀ h' e, Heap.ExtBut it s.heap h' → (∃ o, h'.get? e = some o ∧ o.cls = .type "StopIteration") → E (.ref e) { s with heap := h' }) :
    wpAny (model prog w) A (callSpecial? (.ref it) "__next__") Q E s := by
  obtain ⟨o, ho, hc, hd⟩ := id hit
  obtain ⟨ol, hol, _, nl, hdl⟩ := hl
  refine wpAny_callSpecial?_slot (name := Str.ofString "__next__") hit.typeIs slot_listiter_next
    (wpAny_call_entry slot_listiter_next hit.typeIs entry_listiter_next ?_ (args_listiter_next _))
  show wpAny _ _ (field (.ref it) 0 >>= _) _ _ s
  refine wpAny_bind (wpAny_field ho hd (x := .ref l) rfl ?_)
  show wpAny _ _ (if (Value.ref l == Value.none) = true then _ else _) _ _ s
  rw [if_neg (show ¬ ((Value.ref l == Value.none) = true) from Bool.false_ne_true)]
  show wpAny _ _ (field (.ref it) 1 >>= _) _ _ s
  refine wpAny_bind (wpAny_field ho hd (x := .int 0 0) rfl ?_)
  show wpAny _ _ (seqItems? (.ref l) >>= _) _ _ s
  refine wpAny_bind (wpAny_seqItems hol hdl ?_)
  have hnone : (#[] : Array Value)[(0 : Int).toNat]? = none := rfl
  simp only [hnone]
  refine wpAny_bind (wpAny_rule (wpAny_bind (wpAny_setField ho hd (by simp) ?_)))
  show wpAny _ _ (newExc (.type "StopIteration") [] >>= _) _ _ _
  refine wpAny_bind ?_
  simp only [newExc, newTuple]
  refine wpAny_bind (wpAny_newObj_type ?_ (by size_fits))
  refine wpAny_bind (m := firstArgMember _ _) (wpAny_of_eq (a := Value.none) (by first | rfl | (simp only [firstArgMember]; rfl)) ?_)
  refine wpAny_newObj_type ?_ (by size_fits)
  simp only [raiseNew]
  refine wpAny_bind (wpAny_handled ?_)
  first | rw [show A.in1.handled = none from hh] | rw [hh]
  refine wpAny_bind (wpAny_pure (wpAny_throw ?_))
  exact hE _ _ (((Heap.SameBut.update ..).extBut.push _).push _) ⟨_, Heap.get?_push_size _ rfl, rfl⟩
theorem filter_next_end {I it l : Addr} {f : Value} {Q : PySem.Fin → Shared → Prop} (hh : A.handled = none) (hz : IsFilter s.heap I f it) (hit : s.heap.IsListIter it l 0) (hl : s.heap.IsList l #[])
    (hE : ∀ h' e, Heap.ExtBut it s.heap h' → (∃ o, h'.get? e = some o ∧ o.cls = .type "StopIteration") → E (.ref e) { s with heap := h' }) :
    wpAny (model prog w) A (Builtin.«filter.__next__» ⟨[.ref I], []⟩) Q E s := by
  show wpAny _ _ (field (.ref I) 0 >>= _) _ _ _
  refine wpAny_bind (wpAny_field hz rfl (x := f) rfl ?_)
  show wpAny _ _ (field (.ref I) 1 >>= _) _ _ _
  refine wpAny_bind (wpAny_field hz rfl (x := .ref it) rfl ?_)
  exact wpAny_bind (cs_list_end hh hit hl hE)
theorem pyNext_filter_end {I it l : Addr} {f : Value} {Q : Option Value → Shared → Prop} (hh : A.handled = none) (hz : IsFilter s.heap I f it) (hit : s.heap.IsListIter it l 0) (hl : s.heap.IsList l #[])
    (hQ : ∀ h', Heap.ExtBut it s.heap h' → Q none { s with heap := h' }) : wpAny (model prog w) A (pyNext (.ref I)) Q E s := by
  have hT : s.TypeIs (.ref I) "filter" := ⟨_, hz, rfl⟩
  unfold pyNext
  refine wpAny_bind (wpAny_attempt (wpAny_callSpecial?_slot (name := Str.ofString "__next__") hT slot_filter_next
    (wpAny_call_entry slot_filter_next hT entry_filter_next (filter_next_end hh hz hit hl fun h' e hk he => ?_) (args_filter_next _))))
  obtain ⟨o, ho, hc⟩ := he
  refine wpAny_bind (wpAny_isInstance (T := "StopIteration") (b := true) ⟨o, ho, hc⟩ isSubtype_stop ?_)
  exact wpAny_pure (hQ _ hk)
theorem pyIter_filter {I it : Addr} {f : Value} {Q : Value → Shared → Prop} (hz : IsFilter s.heap I f it) (h : Q (.ref I) s) : wpAny (model prog w) A (pyIter (.ref I)) Q E s := by
  have hT : s.TypeIs (.ref I) "filter" := ⟨_, hz, rfl⟩
  refine wpAny_pyIter_slot hT slot_filter_iter (wpAny_call_entry slot_filter_iter hT entry_filter_iter ?_ (args_filter_iter _))
  show wpAny _ _ (ret (.ref I)) _ _ s
  exact wpAny_pure ⟨_, rfl, "filter", _, hT, slot_filter_next.lookup, h⟩
theorem walks_filter {I it l : Addr} {f : Value} (hh : A.handled = none) (h1 : I ≠ it) (h2 : l ≠ it) : Walks prog w A I [I, it, l] [it] 0 (fun _ _ => False) (fun _ h => IsFilter h I f it ∧ h.IsListIter it l 0 ∧ h.IsList l #[]) where
  sub := fun b hb => by rw [List.mem_singleton.mp hb]; simp
  frame := fun i h h' st hk => ⟨hk I (by simp) _ st.1, st.2.1.at fun o e => hk it (by simp) o e, st.2.2.at fun o e => hk l (by simp) o e⟩
  item := fun i s Q E hi st hQ => absurd hi (Nat.not_lt_zero _)
  done := fun s Q E st hQ => pyNext_filter_end hh st.1 st.2.1 st.2.2 fun h' hk => hQ h' s.toks fun b o hb e => hk b o (fun q => hb (q ▸ .head _)) e
  self := fun i s Q E st hQ => pyIter_filter st.1 hQ
theorem meets_filter_new (f : Value) (l : Addr) (xs : Array Value) :
    Meets (Builtin.«filter.__new__» ⟨[.type "filter", f, .ref l], []⟩) (fun _ R s => s.heap.IsList l xs ∧
      R (.ok (.ret (.ref (s.heap.objs.size + 1)))) { s with heap := (s.heap.push { cls := .type "list_iterator", data := .fields #[.ref l, .int 0 0] }).push { cls := .type "filter", data := .fields #[f, .ref s.heap.objs.size] } }) :=
  .of_wp fun prog w A R s h => by
    obtain ⟨hp, g, d, tk, os⟩ := s; obtain ⟨hl1, h⟩ := h
    have hsub := sub_filter
    have hL1 : Heap.IsList (Shared.heap ⟨hp, g, d, tk, os⟩) l xs := hl1
    wp_walk using wpAny_pyIter_list hL1
    rw [Heap.size_push]
    exact ⟨_, rfl, h⟩
theorem call_filter {l : Addr} {f : Value} {Q : Value → Shared → Prop} {xs : Array Value} (hl : s.heap.IsList l xs)
    (h : Q (.ref (s.heap.objs.size + 1)) { s with heap := (s.heap.push { cls := .type "list_iterator", data := .fields #[.ref l, .int 0 0] }).push { cls := .type "filter", data := .fields #[f, .ref s.heap.objs.size] } }) :
    wpAny (model prog w) A (call (.type "filter") [f, .ref l]) Q E s := by
  refine callType_new called_filter (by decide) (typeCall_filter_2 _ _) (newCall_filter_2 _ _) (fun obj => PySem.F.args_object_init_3 obj _ _) entry_filter_new
    (meets_filter_new f l xs) ⟨hl, ?_⟩
  show _ ∧ _
  have this : ((s.heap.push { cls := .type "list_iterator", data := .fields #[.ref l, .int 0 0] }).push { cls := .type "filter", data := .fields #[f, .ref s.heap.objs.size] }).get? (s.heap.objs.size + 1) = some { cls := .type "filter", data := .fields #[f, .ref s.heap.objs.size] } := by heap_get
  exact ⟨⟨_, this, rfl⟩, h⟩
theorem extend_filter {R : Result → Shared → Prop} {I it l S : Addr} {f : Value} {res : Value} {c₀ : Nat} (hh : A.handled = none) (hz : IsFilter s.heap I f it) (hit : s.heap.IsListIter it l 0) (hl : s.heap.IsList l #[])
    (hS : s.heap.get? S = some { cls := .type "list", data := .seq #[] c₀ })
    (hR : ∀ h' tk c', (∀ b o, b ≠ S → b ≠ it → s.heap.get? b = some o → h'.get? b = some o) → h'.get? S = some { cls := .type "list", dict := none, data := .seq #[] c', slots := #[] } → R (.ok (.ret res)) { s with heap := h', toks := tk })
    (hSl : S ≠ l) :
    wpAny (model prog w) A.in1 (Builtin.List.listExtendWith (.ref S) (.ref I) res)
      (fun fin s' => match fin with | .done f => R (.ok f) s' | .again c' => c'.quiet = true ∧ codeAny (model prog w) A c' R s') (fun e s' => R (.error e) s') s := by
  have hSI : S ≠ I := fun e => by rw [e, hz] at hS; simp at hS
  have hSit : S ≠ it := fun e => by obtain ⟨o, ho, hc, _⟩ := hit; rw [e, ho] at hS; rw [Option.some.inj hS] at hc; exact absurd (Value.type.inj hc) (by decide)
  have hIit : I ≠ it := fun e => by obtain ⟨o, ho, hc, _⟩ := hit; rw [← e, hz] at ho; rw [← Option.some.inj ho] at hc; exact absurd (Value.type.inj hc) (by decide)
  have hlit : l ≠ it := fun e => by
    obtain ⟨o, ho, hc, _⟩ := hit
    obtain ⟨o2, ho2, hc2, _⟩ := hl
    rw [e, ho] at ho2; rw [← Option.some.inj ho2, hc] at hc2; exact absurd (Value.type.inj hc2) (by decide)
  have hSf : S ∉ [I, it, l] := by simp [hSI, hSit, hSl]
  have W := (walks_filter (prog := prog) (w := w) (A := A.in1) (f := f) hh hIit hlit).toS
  have hT : s.TypeIs (.ref I) "filter" := ⟨_, hz, rfl⟩
  unfold Builtin.List.listExtendWith
  refine wpAny_bind (wpAny_typeOf hT ?_)
  have h1 : Builtin.List.listSameRef (.ref S) (.ref I) = false := by simp [Builtin.List.listSameRef, hSI]
  have h2 : (Value.type "filter" == Value.type "list") = false := by decide
  have h3 : (Value.type "filter" == Value.type "tuple") = false := by decide
  simp only [h1, h2, h3, Bool.or_false, Bool.false_eq_true, if_false]
  refine wpAny_bind (pyIter_filter hz ?_)
  refine wpAny_bind (wpAny_holding ?_)
  unfold Builtin.List.listLengthHint
  refine wpAny_bind (wpAny_specialOf hT filter_no_len ?_)
  show wpAny _ A.in1 (specialOf (Value.ref I) (Str.ofString "__length_hint__") >>= _) _ _ _
  refine wpAny_bind (wpAny_specialOf hT filter_no_hint ?_)
  refine wpAny_pure ?_
  show wpAny _ A.in1 (rule "list.extend.makes-room" >>= fun _ => Builtin.List.listTouch (.ref S) >>= fun _ =>
    again (.builtin "list.extend.loop" ⟨[.ref S, .ref I, res], []⟩)) _ _ _
  refine wpAny_bind (wpAny_rule ?_)
  refine wpAny_bind ?_
  show wpAny _ A.in1 (updateSeq S (·.push .none) >>= fun _ => updateSeq S (·.pop)) _ _ _
  refine wpAny_bind (wpAny_updateSeq hS rfl ?_)
  have hS₂ := Heap.get?_update_self (Obj.mapSeq (·.push Value.none)) hS rfl
  refine wpAny_updateSeq (hz := by seq_fits) hS₂ rfl ?_
  have hS₃ := Heap.get?_update_self (Obj.mapSeq (·.pop)) hS₂ rfl
  have oth : ∀ b o, b ≠ S → s.heap.get? b = some o → ((s.heap.update S (Obj.mapSeq (·.push Value.none))).update S (Obj.mapSeq (·.pop))).get? b = some o :=
    fun b o hb e => (Heap.get?_update_other _ _ (Ne.symm hb)).trans ((Heap.get?_update_other _ _ (Ne.symm hb)).trans e)
  refine wpAny_pure ⟨plainId_quiet F.plain_extend_loop _, codeAny_extend_loopS W (Nat.zero_le _) S hSf res 0 0 _ _ _ rfl (Nat.zero_le _)
    ⟨oth I _ (Ne.symm hSI) hz, hit.at fun o e => oth it o (Ne.symm hSit) e, hl.at fun o e => oth l o (Ne.symm hSl) e⟩ hS₃ (ItemsOf.nil _) fun s' acc' c' hm hS' hacc => ?_⟩
  have hacc0 : acc' = #[] := Array.eq_empty_of_size_eq_zero hacc.1
  subst hacc0
  rw [Moved.eq_with hm]
  refine hR s'.heap s'.toks c' (fun b o hb hbi e => hm.heap b o (fun hmem => ?_) (oth b o hb e)) hS'
  rcases List.mem_cons.mp hmem with e' | hmem
  · exact hb e'
  · exact hbi (List.mem_singleton.mp hmem)
theorem call_list_filter {I it l : Addr} {f : Value} {Q : Value → Shared → Prop} (hh : A.handled = none) (hz : IsFilter s.heap I f it) (hit : s.heap.IsListIter it l 0) (hl : s.heap.IsList l #[])
    (hQ : ∀ h' tk c', (∀ b o, b ≠ it → s.heap.get? b = some o → h'.get? b = some o) → h'.get? s.heap.objs.size = some (listOf #[] c') → Q (.ref s.heap.objs.size) { s with heap := h', toks := tk }) :
    wpAny (model prog w) A (call (.type "list") [.ref I]) Q E s := by
  refine callType_codes (Q₁ := fun obj s₁ => obj = .ref s.heap.objs.size ∧ s₁ = { s with heap := s.heap.push { cls := .type "list", data := .seq #[] } }) F.called_list (F.typeCall_list_1 _) F.entry_list_init
    (code_list_new _ ⟨rfl, rfl⟩) fun obj s₁ h₁ => ?_
  obtain ⟨rfl, rfl⟩ := h₁
  have hS : (s.heap.push { cls := .type "list", data := .seq #[] }).get? s.heap.objs.size = some { cls := .type "list", data := .seq #[] } := Heap.get?_push_size _ rfl
  have hlt : l < s.heap.objs.size := by obtain ⟨o, ho, _⟩ := id hl; exact Heap.lt_size ho
  have hilt : it < s.heap.objs.size := by obtain ⟨o, ho, _⟩ := id hit; exact Heap.lt_size ho
  refine ⟨⟨_, hS, rfl⟩, F.args_list_init_2 _ _, ?_⟩
  show wpAny _ A.in1.in1 (do let old ← Builtin.List.listItems (.ref s.heap.objs.size); Builtin.List.listUpdate (.ref s.heap.objs.size) (fun _ => #[]); letGo old.toList.reverse; Builtin.List.listExtendWith (.ref s.heap.objs.size) (.ref I) .none) _ _ _
  refine wpAny_bind ?_
  unfold Builtin.List.listItems
  refine wpAny_bind (wpAny_seqItems hS rfl (wpAny_pure ?_))
  show wpAny _ _ (updateSeq s.heap.objs.size (fun _ => #[]) >>= fun _ => letGo (#[] : Array Value).toList.reverse >>= fun _ => Builtin.List.listExtendWith (.ref s.heap.objs.size) (.ref I) .none) _ _ _
  refine wpAny_bind (wpAny_updateSeq hS rfl ?_)
  have hS₂ := Heap.get?_update_self (Obj.mapSeq (fun _ => (#[] : Array Value))) hS rfl
  have oth : ∀ b o, b ≠ s.heap.objs.size → s.heap.get? b = some o → ((s.heap.push { cls := .type "list", data := .seq #[] }).update s.heap.objs.size (Obj.mapSeq (fun _ => (#[] : Array Value)))).get? b = some o :=
    fun b o hb e => (Heap.get?_update_other _ _ (Ne.symm hb)).trans (Heap.get?_push_of_some _ e)
  refine wpAny_bind (wpAny_letGo ?_)
  have nlt : ∀ {b : Addr}, b < s.heap.objs.size → b ≠ s.heap.objs.size := fun h => Nat.ne_of_lt h
  refine extend_filter (A := A.in1) hh (oth I _ (nlt (Heap.lt_size hz)) hz) (hit.at fun o e => oth it o (nlt hilt) e) (hl.at fun o e => oth l o (nlt hlt) e) hS₂ (fun h' tk c' hk hS' => ?_) (Ne.symm (nlt hlt))
  exact ⟨rfl, hQ h' tk c' (fun b o hbi e => hk b o (nlt (Heap.lt_size e)) hbi (oth b o (nlt (Heap.lt_size e)) e)) hS'⟩
end
-- RFilt3
section
variable {prog : Program} {E : Value → Shared → Prop}
theorem set_no_getattr : typeLookup (.type "set") "__getattr__" = pure none := by rw [typeLookup_type, builtinLookup_eq_fast]; kernel_rfl
theorem entry_set_getattribute : entryFor table "set.__getattribute__" = some Builtin.«object.__getattribute__» :=
  entryFor_alias (id' := "object.__getattribute__") (by kernel_rfl) (by decide +kernel) (by decide +kernel) (by kernel_rfl)
theorem set_contains_look : typeLookup (.type "set") "__contains__" = pure (some (.builtin "set.__contains__")) := by rw [typeLookup_type, builtinLookup_eq_fast]; kernel_rfl
theorem md_get : typeLookup (.type "method_descriptor") "__get__" = pure (some (.builtin "method_descriptor.__get__")) := by rw [typeLookup_type, builtinLookup_eq_fast]; kernel_rfl
theorem md_set : typeLookup (.type "method_descriptor") "__set__" = pure none := by rw [typeLookup_type, builtinLookup_eq_fast]; kernel_rfl
theorem md_del : typeLookup (.type "method_descriptor") "__delete__" = pure none := by rw [typeLookup_type, builtinLookup_eq_fast]; kernel_rfl
theorem entry_md_get : entryFor table "method_descriptor.__get__" = some Builtin.«method_descriptor.__get__» := entryFor_of_tree (by kernel_rfl)
theorem slot_mdget : Slot "method_descriptor" "__get__" "method_descriptor.__get__" :=
  .of (owner := "method_descriptor") (n := "__get__") (by rw [typeLookup_type, builtinLookup_eq_fast]; kernel_rfl) (by decide +kernel) (by decide +kernel) (by decide +kernel)
    (by first | exact .inl (by decide +kernel) | exact .inr (by decide +kernel)) (by rw [isSubtype_type]; kernel_rfl)
theorem args_mdget (a b c : Value) : argsOk "method_descriptor.__get__" ⟨[a, b, c], []⟩ := by unfold argsOk; kernel_rfl
theorem sub_set_set : isSubtype (.type "set") (.type "set") = pure true := by rw [isSubtype_type]; kernel_rfl
theorem md_run {a : Addr} {P : PySem.Fin → Shared → Prop} (hT : s.TypeIs (.ref a) "set") (h : ∀ f h', s.heap.StaysIn h' → P (.done (.ret (.ref f))) { s with heap := h' }) :
    wpAny (model prog w) A (Builtin.«method_descriptor.__get__» ⟨[.builtin "set.__contains__", .ref a, .type "set"], []⟩) P E s := by
  have f1 := sub_set_set
  unfold Builtin.«method_descriptor.__get__»
  refine wpAny_bind (wpAny_of_eq (a := (.builtin "set.__contains__", some (.ref a), some (.type "set"))) (by first | rfl | kernel_rfl) ?_)
  dsimp only
  rw [if_neg (by decide +kernel)]
  refine wpAny_bind (wpAny_bind (wpAny_of_eq (a := (Str.ofString "__contains__", .type "set")) (by first | rfl | kernel_rfl) ?_))
  dsimp only
  refine wpAny_bind (wpAny_isInstance (T := "set") (b := true) hT f1 ?_)
  rw [if_neg (by decide)]
  refine wpAny_pure ?_
  refine wpAny_bind (wpAny_newObj_type (wpAny_pure (h _ _ fun b o e => Heap.get?_push_of_some _ e)))
theorem set_ga (a : Addr) (u : Tok) (es : Array (Int × Value)) (ep : Nat) (tb : SetTable) (sl : Array (Option Value)) : Meets (Builtin.«object.__getattribute__» ⟨[.ref a, .str "__contains__" u], []⟩) (fun A R s => s.heap.get? a = some { cls := .type "set", dict := none, data := .set es ep tb, slots := sl } ∧
    ∀ f h', s.heap.StaysIn h' → R (.ok (.ret (.ref f))) { s with heap := h' }) :=
  Meets.of_wp fun prog w A R s hs => by
    obtain ⟨hp, g, d, tk, os⟩ := s
    obtain ⟨hx, hs⟩ := hs
    have hT : (⟨hp, g, d, tk, os⟩ : Shared).TypeIs (.ref a) "set" := ⟨_, hx, rfl⟩
    have f1 := set_contains_look
    have f2 := PySem.F.type_set_contains
    have f3 := md_get
    have f4 := md_set
    have f5 := md_del
    unfold Builtin.«object.__getattribute__»
    repeat (any_goals (first | assumption | ((with_reducible show wpAny _ _ (call (Value.builtin "method_descriptor.__get__") _ _) _ _ _); refine wpAny_call_entry slot_mdget f2 entry_md_get (md_run hT fun f h' st => ?_) (args_mdget _ _ _)) | wp_step))
    exact ⟨_, rfl, wpAny_pure ⟨_, rfl, hs f h' st⟩⟩
theorem get_contains {a : Addr} {o : Obj} {Q : Value → Shared → Prop} (hx : s.heap.get? a = some o) (hex : o.ExactSet) {es : Array (Int × Value)} {ep : Nat} {tb : SetTable} (hd : o.data = .set es ep tb)
    (h : ∀ f h' tk, s.heap.StaysIn h' → Q (.ref f) { s with heap := h', toks := tk }) : wpAny (model prog w) A (getAttr (.ref a) "__contains__" true) Q E s := by
  obtain ⟨c, dct, dat, sl⟩ := o
  obtain ⟨h1, h2, h3⟩ := hex
  simp only at h1 h2 h3 hd
  subst h1 h2 hd
  obtain ⟨hp, g, d, tk, os⟩ := s
  have hT : ∀ tk', (⟨hp, g, d, tk', os⟩ : Shared).TypeIs (.ref a) "set" := fun _ => ⟨_, hx, rfl⟩
  have f3 := PySem.F.slot_set_getattribute.lookup
  have f4 := PySem.F.slot_set_getattribute.bind (.ref a)
  have f5 := set_no_getattr
  unfold getAttr getAttrBy
  repeat (any_goals (first | assumption | exact hT _ | ((with_reducible show wpAny _ _ (call (Value.builtin "set.__getattribute__") _ _) _ _ _); refine call_meets PySem.F.slot_set_getattribute (hT _) entry_set_getattribute (PySem.F.args_set_getattribute_2 _ _) (set_ga a _ es ep tb sl) ⟨hx, fun f h' st => ?_⟩) | wp_step))
  show wpAny (model prog w) A (handedOut (.ref f)) Q E _
  refine wpAny_of_eq (a := .ref f) (by first | rfl | kernel_rfl) ?_
  exact h f h' _ st
end
-- RFilt4
section
variable {prog : Program} {E : Value → Shared → Prop}
theorem filter_N {g : Heap} {L : Addr} {m : Str → Option Value} {news : List (Addr × Obj)} {l : Addr} {f : Value} {Q : Value → Shared → Prop} (F : Fr g L s.heap m) (N : News g L s.heap news) (hl : s.heap.IsList l #[])
    (h : ∀ I it h', Fr g L h' m → News g L h' ((I, { cls := .type "filter", data := .fields #[f, .ref it] }) :: (it, { cls := .type "list_iterator", data := .fields #[.ref l, .int 0 0] }) :: news) → (∀ p ∈ news, p.1 < it) → Q (.ref I) { s with heap := h' }) :
    wpAny (model prog w) A (call (.type "filter") [f, .ref l]) Q E s := by
  refine call_filter hl ?_
  refine h _ s.heap.objs.size _ ((F.push _).push _) ?_ fun p hp => Heap.lt_size (N p hp).1
  have := (N.push F { cls := .type "list_iterator", data := .fields #[.ref l, .int 0 0] }).push (F.push _) { cls := .type "filter", data := .fields #[f, .ref s.heap.objs.size] }
  rwa [Heap.size_push] at this
theorem list_filter_N {g : Heap} {L : Addr} {m : Str → Option Value} {news : List (Addr × Obj)} {l I it : Addr} {f : Value} {Q : Value → Shared → Prop} (hh : A.handled = none) (F : Fr g L s.heap m)
    (N : News g L s.heap ((I, { cls := .type "filter", data := .fields #[f, .ref it] }) :: (it, { cls := .type "list_iterator", data := .fields #[.ref l, .int 0 0] }) :: news)) (hl : g.IsList l #[]) (hne : ∀ p ∈ news, p.1 ≠ it)
    (h : ∀ D h' tk c', Fr g L h' m → News g L h' ((D, listOf #[] c') :: news) → (∀ p ∈ news, p.1 < D) → Q (.ref D) { s with heap := h', toks := tk }) :
    wpAny (model prog w) A (call (.type "list") [.ref I]) Q E s := by
  have nI := N _ (.head _)
  have nit := N _ (.tail _ (.head _))
  refine call_list_filter hh nI.1 ⟨_, nit.1, rfl, rfl⟩ (hl.at fun o e => F.keep _ _ e) fun h' tk c' hk hD => ?_
  have hit0 : g.get? it = none := nit.2.2
  have F' : Fr g L h' m := ⟨F.ns.at fun o e => hk L o (Ne.symm nit.2.1) e, fun b o e => hk b o (fun q => by rw [q, hit0] at e; cases e) (F.keep b o e), F.above⟩
  refine h _ h' tk c' F' ?_ fun p hp => Heap.lt_size (N p (.tail _ (.tail _ hp))).1
  intro p hp
  rcases List.mem_cons.mp hp with rfl | hp
  · refine ⟨hD, Nat.ne_of_gt F.ns.lt, new_none F (Nat.le_refl _)⟩
  · have := N p (.tail _ (.tail _ hp))
    exact ⟨hk _ _ (hne p hp) this.1, this.2⟩
end
-- RMerge
noncomputable def EntAt (h : Heap) (x : Addr) (rules : List (List Str × Bool)) : Prop :=
  ∃ dx es n u rl vs, InstAt h x (instObj 52 dx) 52 (some (dictOf es n)) ∧ getL (Str.ofString "useragents") es = some (some (.ref u)) ∧ getL (Str.ofString "rulelines") es = some (some (.ref rl)) ∧
    getL (Str.ofString "delay") es = some (some .none) ∧ getL (Str.ofString "req_rate") es = some (some .none) ∧ h.IsList u (List.toArray []) ∧ h.IsList rl (List.toArray vs) ∧ RulesAre h vs rules
theorem addl2 {prog : Program} {E : Value → Shared → Prop} {g : Heap} {L : Addr} {m : Str → Option Value} {news : List (Addr × Obj)} {l b : Addr} {vs ws : List Value} {Q : Value → Shared → Prop} (F : Fr g L s.heap m) (N : News g L s.heap news) (hl : s.heap.IsList l vs.toArray) (hb : s.heap.IsList b ws.toArray) (hz : vs.length + ws.length ≤ 1000)
    (h : ∀ D h', Fr g L h' m → News g L h' ((D, listOf (List.toArray (vs ++ ws)) 0) :: news) → (∀ p ∈ news, p.1 < D) → Q (.ref D) { s with heap := h' }) :
    wpAny (model prog w) A (binaryOp .Add (.ref l) (.ref b)) Q E s :=
  add_lists F N hl hb (fun h' F' N' => h _ h' F' N' fun p hp => Heap.lt_size (N p hp).1) (by rw [sizeLine_eq]; omega)

-- RMerge3
theorem newsQ {g h : Heap} {L : Addr} {l l' : List (Addr × Obj)} {p : Addr × Obj} (N : News g L h l) (hm : p ∈ l) (N' : News g L h l') : News g L h (p :: l') := fun q hq => by
  rcases List.mem_cons.mp hq with rfl | hq
  · exact N _ hm
  · exact N' _ hq
theorem newsOut {g h : Heap} {L : Addr} {l : List (Addr × Obj)} (N : News g L h l) : ∀ p ∈ l, h.get? p.1 = some p.2 ∧ g.get? p.1 = none := fun p hp => ⟨(N p hp).1, (N p hp).2.2⟩
noncomputable def isCellB0 (o : Obj) : Bool := match o.data with | .cell _ => true | _ => false
noncomputable def EntV (h : Heap) (x : Addr) (vs : List Value) (rules : List (List Str × Bool)) : Prop :=
  ∃ dx es n u rl, InstAt h x (instObj 52 dx) 52 (some (dictOf es n)) ∧ getL (Str.ofString "useragents") es = some (some (.ref u)) ∧ getL (Str.ofString "rulelines") es = some (some (.ref rl)) ∧
    getL (Str.ofString "delay") es = some (some .none) ∧ getL (Str.ofString "req_rate") es = some (some .none) ∧ h.IsList u (List.toArray []) ∧ h.IsList rl (List.toArray vs) ∧ RulesAre h vs rules
noncomputable def RecL (nf : List (Addr × Obj)) (a : Addr) (vs : List Value) : Prop :=
  ∃ dx es n rl n2, (a, instObj 52 dx) ∈ nf ∧ (dx, dictOf es n) ∈ nf ∧ getL (Str.ofString "rulelines") es = some (some (.ref rl)) ∧ getL (Str.ofString "allowance") es = some none ∧ (rl, listOf (List.toArray vs) n2) ∈ nf
theorem RecL.at {nf : List (Addr × Obj)} {a : Addr} {vs : List Value} (r : RecL nf a vs) {g h : Heap} {L : Addr} (N : News g L h nf) {rules : List (List Str × Bool)} (hr : RulesAre h vs rules) : RecAt h a rules := by
  obtain ⟨dx, es, n, rl, n2, a1, a2, a3, a4, a5⟩ := r
  exact ⟨dx, es, n, rl, vs, InstAt.of_news N a1 a2, a3, a4, News.isList N a5, hr⟩
theorem merge_spec3 {q : Str} {nms : List (Str × NameKind)} {mr : List (Str × Const)} {L0 f0 : Addr} {cd0 : Value} {x1 x2 : Addr} {r1 r2 : List (List Str × Bool)} {R : Result → Shared → Prop} {k : Nat} (C : Cx w mean mg mb (k + 3) (callerA.deeper (envOfC q { kind := .function, names := nms, isGenerator := false, isCoroutine := false, more := mr } L0 f0 cd0)) base [envOfC q { kind := .function, names := nms, isGenerator := false, isCoroutine := false, more := mr } L0 f0 cd0] s.heap)
    {vs1 vs2 : List Value} (h1 : EntV s.heap x1 vs1 r1) (h2 : EntV s.heap x2 vs2 r2) (hz1 : r1.length ≤ 10) (hz2 : r2.length ≤ 10)
    (hR : ∀ a h' tk nf, s.heap.StaysIn h' → (∀ p ∈ nf, h'.get? p.1 = some p.2 ∧ s.heap.get? p.1 = none) → RecL nf a (vs1 ++ vs2) → (nf.all fun p => !isCellB0 p.2) = true → R (.ok (.ret (.ref a))) { s with heap := h', toks := tk }) :
    codeAny (MM w) (callerA.deeper (envOfC q { kind := .function, names := nms, isGenerator := false, isCoroutine := false, more := mr } L0 f0 cd0)) (.call (.ref 63) ⟨[.ref x1, .ref x2], []⟩) R s := by
  obtain ⟨dx1, es1, n1, u1, l1, I1, gu1, gr1, gd1, gq1, hu1, hl1, hr1⟩ := h1
  obtain ⟨dx2, es2, n2, u2, l2, I2, gu2, gr2, gd2, gq2, hu2, hl2, hr2⟩ := h2
  refine enter C (by k_is) (by k_is) (BindsTo.of_eq rfl) (locs rfl) rfl rfl rfl (by decide) ?_
  intro L h₁ tk F N C'
  have X := C.X
  have T := C.T
  have B := C.B
  k_steps
  rename Fr _ _ _ _ => F1
  rename News _ _ _ _ => N1
  refine newSetList_N F1 N1 C'.hh hu2 .nil (by decide) ?_
  intro h3 tk3 so F3 N3 hso _ _
  obtain ⟨hex, es, ep, tb, hsd, _⟩ := hso
  have nso := N3 _ (.head _)
  refine get_contains nso.1 hex hsd ?_
  intro f4 h4 tk4 st4
  have F4 := Fr.keeps F3 st4
  have N4 := kti_tail (News.keeps N3 st4)
  clear F1 N1 F3 N3
  k_steps
  refine filter_N F4 N4 (hu1.at fun o e => F4.keep _ _ e) ?_
  intro I it h5 F5 N5 l5
  have N5s := And.intro N5 trivial
  have l5s := And.intro l5 trivial
  k_lt l5
  clear F4 N4
  k_steps
  rename Fr _ _ _ _ => F6
  refine list_filter_N C'.hh F6 N5s.1 hu1 (fun p hp => Nat.ne_of_lt (l5s.1 p hp)) ?_
  intro D h7 tk7 c7 F7 N7 l7
  clear F6 N5 N5s l5s
  k_lt l7
  k_steps
  rename Fr _ _ _ _ => F8
  rename News _ _ _ _ => N8
  have hzz : vs1.length + vs2.length ≤ 1000 := by rw [hr1.length, hr2.length]; omega
  refine addl2 F8 N8 (hl1.at fun o e => F8.keep _ _ e) (hl2.at fun o e => F8.keep _ _ e) hzz ?_
  intro D2 h9 F9 N9 l9
  k_lt l9
  clear F8 N8
  k_steps
  rename Fr _ _ _ _ => Fe
  rename News _ _ _ _ => Ne
  have Nx := newsQ Ne (.tail _ (.tail _ (.tail _ (.tail _ (.head _))))) (newsQ Ne (.tail _ (.tail _ (.tail _ (.tail _ (.tail _ (.head _)))))) (newsQ Ne (.head _) News.nil))
  exact hR _ _ _ _ Fe.keep (newsOut Nx) ⟨_, _, _, D2, _, .head _, .tail _ (.head _), rfl, rfl, .tail _ (.tail _ (.head _))⟩ rfl
-- RPairs
noncomputable def pairD (p : Nat × Nat) : PySem.W.Dat := .tuple [.int p.1, .int p.2]
theorem pairs_dat {h : Heap} {news : List (Addr × Obj)} (hn : ∀ a o, h.get? a = some o → (a, o) ∈ news) : ∀ {vs : List Value} {ps : List (Nat × Nat)}, PairsAre h vs ps → DatAll news vs (ps.map pairD) := by
  intro vs ps r
  induction r with
  | nil => exact .nil
  | cons e _ ih => exact .cons (.tuple (vs := [_, _]) (hn _ _ e) (.cons (.int _ _) (.cons (.int _ _) .nil))) ih
theorem all_news (h : Heap) : News {} h.objs.size h (restOf {} h.objs.size [] h) := rest_news
theorem all_mem {h : Heap} {a : Addr} {o : Obj} (e : h.get? a = some o) : (a, o) ∈ restOf {} h.objs.size [] h :=
  mem_restOf.mpr ⟨Nat.ne_of_lt (Heap.lt_size e), by simp, rfl, e⟩
theorem pairD_ok (ps : List (Nat × Nat)) : ∀ d ∈ ps.map pairD, kqdOk 8 d = true := by
  intro d hd
  obtain ⟨p, _, rfl⟩ := List.mem_map.mp hd
  rfl
theorem ne_pairs {prog : Program} {E : Value → Shared → Prop} {a b : Addr} {xs ys : List Value} {n m : Nat} {ps : List (Nat × Nat)} {Q : Value → Shared → Prop} (ha : s.heap.get? a = some (listOf (List.toArray xs) n)) (hb : s.heap.get? b = some (listOf (List.toArray ys) m)) (pa : PairsAre s.heap xs ps) (pb : PairsAre s.heap ys ps)
    (hu : A.units + 64 < cLine) (h : Q (.bool false) s) : wpAny (model prog w) A (compareOp .NotEq (.ref a) (.ref b)) Q E s := by
  refine kqd_ne (all_news s.heap) (all_mem ha) rfl rfl (pairs_dat (fun _ _ => all_mem) pa) (fun _ hp => hp) (all_mem hb) rfl rfl (pairs_dat (fun _ _ => all_mem) pb) (fun _ hp => hp) (pairD_ok _) (pairD_ok _) hu ?_
  simpa using h
theorem eq_pairs {prog : Program} {E : Value → Shared → Prop} {a b : Addr} {xs ys : List Value} {n m : Nat} {ps : List (Nat × Nat)} {Q : Value → Shared → Prop} (ha : s.heap.get? a = some (listOf (List.toArray xs) n)) (hb : s.heap.get? b = some (listOf (List.toArray ys) m)) (pa : PairsAre s.heap xs ps) (pb : PairsAre s.heap ys ps)
    (hu : A.units + 64 < cLine) (h : Q (.bool true) s) : wpAny (model prog w) A (compareOp .Eq (.ref a) (.ref b)) Q E s := by
  refine kqd_eq (all_news s.heap) (all_mem ha) rfl rfl (pairs_dat (fun _ _ => all_mem) pa) (fun _ hp => hp) (all_mem hb) rfl rfl (pairs_dat (fun _ _ => all_mem) pb) (fun _ hp => hp) (pairD_ok _) (pairD_ok _) hu ?_
  simpa using h
theorem tupStay_led {g h h' : Heap} {L : Addr} {m m' : Str → Option Value} {X : List Addr} {news : List (Addr × Obj)} (F : Fr g L h m) (F' : Fr g L h' m') (N' : News g L h' news) (hs : ∀ p ∈ restOf g L X h, p ∈ news) (hX : ∀ b ∈ X, ∃ o, h.get? b = some o ∧ isCellB0 o = true) : TupStay h h' := by
  refine .of_off (off_of_rest F F' N' hs) fun b hb o e c d => ?_
  rcases List.mem_cons.mp hb with rfl | hb
  · exact ns_notTup F.ns e d
  · obtain ⟨o', e', k⟩ := hX b hb
    rw [e] at e'
    cases e'
    obtain ⟨xs, n, hd⟩ := d
    unfold isCellB0 at k
    rw [hd] at k
    cases k
end
section
local macro_rules | `(tactic| walk_at $s:str) => if ["exec For Name Attribute cons nil", "exec For Name Subscript cons nil", "exec For Name Name cons nil", "exec For Name Call cons nil", "exec For Tuple Call cons nil", "exec While", "pyIter ref", "eval ListComp", "call ref", "subscriptTail Name UnaryOp ref int", "subscriptTail Name Subscript ref int", "subscriptTail Name Name ref int", "subscriptTail Name UnaryOp Constant ref int", "subscriptTail Name Subscript Name UnaryOp ref int", "call builtin:list.append cons nil", "call builtin:list.pop cons nil", "compareOp NotEq ref ref", "compareOp Eq ref ref", "compareOp In int ref", "call builtin:str.join cons nil", "subscriptTail Name BinOp ref int", "subscriptTail Name Slice ref ref"].contains s.getString then `(tactic| (refine Hold.mk ?_)) else `(tactic| fail)
local macro_rules | `(tactic| walk_at "eval Name") => `(tactic| (k_here; k_dflt (refine' nameX_L ?F ?v ?_ ?a ?b; (case F => k_asm); (case a => rfl); (case b => rfl); (case v => assumption); k_whole)))
local macro_rules | `(tactic| walk_at "no such place") => `(tactic| fail)
local macro_rules | `(tactic| walk_at "no such place") => `(tactic| fail)
local macro_rules | `(tactic| walk_at "no such place") => `(tactic| fail)
local macro_rules | `(tactic| walk_at "no such place") => `(tactic| fail)
local macro_rules | `(tactic| walk_at "no such place") => `(tactic| fail)
variable {w : World} {mean : ExcName → Option Value} {mg mb : Str → Option Value} {A : Around} {base : Heap} {outer : List Env} {s : Shared}
-- RForC
noncomputable def SoftC (L c : Addr) (Z : Nat) (h h' : Heap) : Prop := ∀ b o, h.get? b = some o → (b < Z ∨ soft o = true) → (isNsDict o = true → b ≠ L) → (isCellB0 o = true → b ≠ c) → h'.get? b = some o
theorem for_list_cell {g : Heap} {E : Value → Shared → Prop} {env : Env} {Q : Flow → Shared → Prop} {x : Str} {px : Pos} {body : List Stmt} {l c : Addr} {vs : List Value} {m : Str → Option Value} (hh : A.handled = none) (hl : s.heap.IsList l vs.toArray) (F : Fr g env.locals s.heap m)
    (Mu : List Addr) (hMl : l ∉ Mu) (hMu : ∀ b ∈ Mu, b < s.heap.objs.size) (hcM : c ∉ Mu) (hcL : c ≠ env.locals) (hcg : g.get? c = none) {v₀ : Option Value} (hc0 : s.heap.IsCell c v₀) (hck : env.kindOf x = some .cell) (hcl : env.cells.lookup x = some c) (hfun : env.scope.kind = .function)
    (J : Nat → Heap → Prop) (h0 : J 0 s.heap) (hJ : ∀ i h h', J i h → SoftC env.locals c s.heap.objs.size h h' → J i h')
    (hm : ∀ (m₁ : Str → Option Value), True)
    (K : (Str → Option Value) → Prop) (hK : K m)
    (turn : ∀ i v m₁ h tk, vs[i]? = some v → J i h → K m₁ → Fr g env.locals h m₁ → h.IsCell c (some v) →
      wpAny (MM w) A (execs body env) (TurnEnd g env.locals Mu (fun m₂ h₂ => J (i + 1) h₂ ∧ K m₂) { s with heap := h, toks := tk } Q) (fun _ _ => False) { s with heap := h, toks := tk })
    (done : ∀ h tk m₁, J vs.length h → K m₁ → Fr g env.locals h m₁ → Q .next { s with heap := h, toks := tk }) :
    wpAny (MM w) A (pyIter (.ref l)) (fun it s₂ => codeAny (MM w) A (.forLoop (.Name x px) it body [] env) (fun r s' => match r with | .ok f => Q f s' | .error e => cameBackBy (MM w) A env E e s') s₂) E s := by
  obtain ⟨ol, hol, hcl', nn, hdl⟩ := id hl
  have hlt : l < s.heap.objs.size := Heap.lt_size hol
  have hLlt := F.ns.lt
  have hlL : l ≠ env.locals := by
    rintro rfl
    have := ns_dict F.ns hol
    unfold isNsDict at this
    rw [hdl] at this
    cases this
  have hlc : l ≠ c := by
    rintro rfl
    obtain ⟨oc, ho, hd⟩ := hc0
    rw [hol] at ho
    cases ho
    rw [hdl] at hd
    cases hd
  have hclt : c < s.heap.objs.size := by obtain ⟨oc, ho, _⟩ := hc0; exact Heap.lt_size ho
  refine wpAny_pyIter_list hl ?_
  have hst : ∀ (b : Addr) (o : Obj), s.heap.get? b = some o → (s.heap.push { cls := .type "list_iterator", data := .fields #[.ref l, .int 0 0] }).get? b = some o := fun b o e => Heap.get?_push_of_some _ e
  have W := Walks.list (prog := pLaw.row.prog) (w := w) hh s.heap.objs.size l (Nat.ne_of_lt hlt) vs.toArray
  rw [show vs.toArray.size = vs.length from by simp] at W
  have hcI : c ≠ s.heap.objs.size := Nat.ne_of_lt hclt
  have hLI : env.locals ≠ s.heap.objs.size := Nat.ne_of_lt hLlt
  have hgI : g.get? s.heap.objs.size = none := new_none F (Nat.le_refl _)
  refine codeAny_forLoop
    (fun k s' => ∃ h' tk m' i v', s' = { s with heap := h', toks := tk } ∧ (h'.IsListIter s.heap.objs.size l i ∧ h'.IsList l vs.toArray) ∧ Fr g env.locals h' m' ∧ J i h' ∧ K m' ∧ h'.IsCell c v' ∧ i ≤ vs.length ∧ k = vs.length + 1 - i) ?_ (vs.length + 1)
    ⟨_, s.toks, m, 0, v₀, rfl, ⟨⟨_, Heap.get?_push_size _ rfl, rfl, rfl⟩, hl.at fun o e => Heap.get?_push_of_some _ e⟩, F.push _, hJ _ _ _ h0 (fun b o e _ _ _ => hst b o e), hK, hc0.keeps hst, Nat.zero_le _, rfl⟩
  rintro k s' ⟨h', tk, m', i, v', rfl, hst', F', hJ', hK', hc', hi, rfl⟩
  have old : ∀ b o, g.get? b = some o → b ≠ s.heap.objs.size := fun b o e q => by rw [q, hgI] at e; cases e
  have next : ∀ h₁ : Heap, (∀ b o, b ∉ [s.heap.objs.size] → h'.get? b = some o → h₁.get? b = some o) → Fr g env.locals h₁ m' ∧ J i h₁ ∧ h₁.IsCell c v' := fun h₁ hk₁ =>
    ⟨⟨F'.ns.at' fun o e => hk₁ _ o (by simpa using hLI) e, fun b o e => hk₁ b o (by simpa using old b o e) (F'.keep b o e), F'.above⟩,
      hJ _ _ _ hJ' (fun b o e hs _ _ => hk₁ b o (fun hb => by
        obtain ⟨o', e', _, hd⟩ := hst'.1
        rcases hs with hs | hs
        · exact absurd (List.mem_singleton.mp hb) (Nat.ne_of_lt hs)
        rw [List.mem_singleton.mp hb, e'] at e
        cases e
        unfold soft at hs
        rw [hd] at hs
        cases hs) e), let ⟨o, ho, hd⟩ := hc'; ⟨o, hk₁ _ _ (by simpa using hcI) ho, hd⟩⟩
  by_cases hltn : i < vs.length
  · refine W.item i _ _ _ hltn hst' fun v h₁ tk₁ hP hst₁ hk₁ => ?_
    obtain ⟨F₁, J₁, c₁⟩ := next h₁ hk₁
    refine wpAny_assign_Name (wpAny_storeName_cell hfun hck hcl c₁ (fun h₂ hc₂ hs₂ => ?_))
    have F₂ : Fr g env.locals h₂ m' := ⟨F₁.ns.at' fun o e => (hs₂.2 _ (Ne.symm hcL)).trans e, fun b o e => (hs₂.2 b (fun q => by rw [q, hcg] at e; cases e)).trans (F₁.keep b o e), F₁.above⟩
    have J₂ : J i h₂ := hJ _ _ _ J₁ fun b o e _ _ hbc => (hs₂.2 b (fun q => by
      obtain ⟨oc, ho, hd⟩ := c₁
      rw [q, ho] at e
      cases e
      exact hbc (by unfold isCellB0; rw [hd]) q)).trans e
    have hst₂ : h₂.IsListIter s.heap.objs.size l (i + 1) ∧ h₂.IsList l vs.toArray := ⟨hst₁.1.at fun o e => (hs₂.2 _ (Ne.symm hcI)).trans e, hst₁.2.at fun o e => (hs₂.2 _ hlc).trans e⟩
    refine wpAny_mono (turn i v m' h₂ _ (by simpa using hP) J₂ hK' F₂ hc₂) (fun f s₃ h₃ => ?_) fun _ _ e => e.elim
    have fin : (∃ h' tk m₂, s₃ = { s with heap := h', toks := tk } ∧ Fr g env.locals h' m₂ ∧ Off (env.locals :: Mu) h₂ h' ∧ (J (i + 1) h' ∧ K m₂)) →
        ∃ m, m < vs.length + 1 - i ∧ ∃ h' tk m' i v', s₃ = { s with heap := h', toks := tk } ∧ (h'.IsListIter s.heap.objs.size l i ∧ h'.IsList l vs.toArray) ∧ Fr g env.locals h' m' ∧ J i h' ∧ K m' ∧ h'.IsCell c v' ∧ i ≤ vs.length ∧ m = vs.length + 1 - i := by
      rintro ⟨h₄, tk₄, m₄, e, F₄, O₄, J₄, K₄⟩
      have nIM : s.heap.objs.size ∉ env.locals :: Mu := by
        intro hm
        rcases List.mem_cons.mp hm with q | q
        · exact hLI q.symm
        · exact absurd (hMu _ q) (Nat.lt_irrefl _)
      have nlM : l ∉ env.locals :: Mu := by
        intro hm
        rcases List.mem_cons.mp hm with q | q
        · exact hlL q
        · exact hMl q
      have ncM : c ∉ env.locals :: Mu := by
        intro hm
        rcases List.mem_cons.mp hm with q | q
        · exact hcL q
        · exact hcM q
      exact ⟨vs.length + 1 - (i + 1), by omega, h₄, tk₄, m₄, i + 1, some v, e, ⟨hst₂.1.at fun o e => O₄ _ o nIM e, hst₂.2.at fun o e => O₄ _ o nlM e⟩, F₄, J₄, K₄, let ⟨o, ho, hd⟩ := hc₂; ⟨o, O₄ _ _ ncM ho, hd⟩, hltn, rfl⟩
    cases f with
    | ret v => exact h₃
    | brk => exact h₃
    | cont => exact fin h₃
    | next => exact fin h₃
  · have hin : i = vs.length := by omega
    subst hin
    refine W.done _ _ _ hst' fun h₁ tk₁ hk₁ => wpAny_execs_nil ?_
    obtain ⟨F₁, J₁, c₁⟩ := next h₁ hk₁
    exact done h₁ tk₁ m' J₁ hK' F₁

theorem TupStay.of_softC {L c : Addr} {Z : Nat} {h h' : Heap} (k : SoftC L c Z h h') : TupStay h h' := fun a o e h1 ⟨xs, n, hd⟩ => by
  refine k a o e (.inr ?_) (fun q => ?_) (fun q => ?_)
  · unfold soft; rw [hd]
  · unfold isNsDict at q; rw [hd] at q; cases q
  · unfold isCellB0 at q; rw [hd] at q; cases q
noncomputable def CutsJ (g : Heap) (L due bg : Addr) (St : List (Addr × Obj)) (F : Nat → List (Nat × Nat)) (B : Nat → Int) (i : Nat) (h : Heap) : Prop :=
  (∃ vs n, h.get? due = some (listOf (List.toArray vs) n) ∧ PairsAre h vs (F i)) ∧ (∃ o t, h.get? bg = some o ∧ o.data = .cell (some (.int (B i) t))) ∧ News g L h St
theorem CutsJ.softC {g : Heap} {L due bg c : Addr} {St : List (Addr × Obj)} {F : Nat → List (Nat × Nat)} {B : Nat → Int} {Z : Nat} (hL : bg ≠ L) (hc : bg ≠ c) (hS : ∀ p ∈ St, p.1 < Z ∧ p.1 ≠ c) (i : Nat) (h h' : Heap) (J : CutsJ g L due bg St F B i h) (k : SoftC L c Z h h') : CutsJ g L due bg St F B i h' := by
  obtain ⟨⟨vs, n, a, b⟩, ⟨o, t, d, e⟩, N⟩ := J
  refine ⟨⟨vs, n, k _ _ a (.inr rfl) (fun q => by cases q) (fun q => by cases q), b.stay (.of_softC k)⟩, ⟨o, t, k _ _ d (.inr ?_) (fun _ => hL) (fun _ => hc), e⟩, ?_⟩
  · unfold soft; rw [e]
  · intro p hp
    obtain ⟨x, y, z⟩ := N p hp
    exact ⟨k _ _ x (.inl (hS p hp).1) (fun _ => y) (fun _ => (hS p hp).2), y, z⟩
end
section
local macro_rules | `(tactic| walk_at $s:str) => if ["exec For Name Attribute cons nil", "exec For Name Subscript cons nil", "exec For Name Name cons nil", "exec For Name Call cons nil", "exec For Tuple Call cons nil", "exec While", "exec Assign cons ListComp", "eval ListComp", "subscriptTail Name UnaryOp ref int", "subscriptTail Name Subscript ref int", "subscriptTail Name Name ref int", "subscriptTail Name UnaryOp Constant ref int", "subscriptTail Name Subscript Name UnaryOp ref int", "call builtin:list.pop cons nil", "compareOp NotEq ref ref", "compareOp Eq ref ref", "compareOp In int ref", "call builtin:str.join cons nil", "subscriptTail Name BinOp ref int", "subscriptTail Name Slice ref ref"].contains s.getString then `(tactic| (refine Hold.mk ?_)) else `(tactic| fail)
local macro_rules | `(tactic| walk_at "pyIter ref") => `(tactic| ((with_reducible show wpAny _ _ (pyIter (Value.ref _)) (fun _ _ => codeAny _ _ _ _ _) _ _); refine Hold.mk ?_))
local macro_rules | `(tactic| walk_at "call ref") => `(tactic| ((first | (with_reducible show wpAny _ _ (call (Value.ref 94) _) _ _ _) | (with_reducible show wpAny _ _ (call (Value.ref 87) _) _ _ _) | (with_reducible show wpAny _ _ (call (Value.ref 106) _) _ _ _) | (with_reducible show wpAny _ _ (call (Value.ref 111) _) _ _ _) | (with_reducible show wpAny _ _ (call (Value.ref 118) _) _ _ _) | (with_reducible show wpAny _ _ (call (Value.ref 80) _) _ _ _)); refine Hold.mk ?_))
local macro_rules | `(tactic| walk_at "eval Name") => `(tactic| (k_here; k_dflt (refine' nameX_L ?F ?v ?_ ?a ?b; (case F => k_asm); (case a => rfl); (case b => rfl); (case v => assumption); k_whole)))
local macro_rules | `(tactic| walk_at "no such place") => `(tactic| fail)
local macro_rules | `(tactic| walk_at "no such place") => `(tactic| fail)
local macro_rules | `(tactic| walk_at "no such place") => `(tactic| fail)
local macro_rules | `(tactic| walk_at "no such place") => `(tactic| fail)
variable {w : World} {mean : ExcName → Option Value} {mg mb : Str → Option Value} {A : Around} {base : Heap} {outer : List Env} {s : Shared}
-- RRec
theorem upd_of {d : Addr} {o o' : Obj} : ∀ {l : List (Addr × Obj)} {u : Obj → List (Addr × Obj)}, UpdF d o l u → Upd d o o' l (u o')
  | _, _, .head h => .head h
  | _, _, .tail h r => .tail h (upd_of r)
theorem ext_any {prog : Program} {E : Value → Shared → Prop} {g : Heap} {L D b : Addr} {m : Str → Option Value} {news : List (Addr × Obj)} {u : Obj → List (Addr × Obj)} {xs ys : List Value} {n n2 : Nat} {Q : Value → Shared → Prop} (F : Fr g L s.heap m) (N : News g L s.heap news) (hb : (b, listOf (List.toArray ys) n2) ∈ news)
    (U : UpdF D (listOf (List.toArray xs) n) news u) (hz : xs.length + ys.length ≤ 1000)
    (h : ∀ h' n', Fr g L h' m → News g L h' (u (listOf (List.toArray (xs ++ ys)) n')) → Q .none { s with heap := h' }) : wpAny (model prog w) A (call (.builtin "list.extend") [.ref D, .ref b]) Q E s := by
  have hd : ¬(!(List.toArray xs).isEmpty && Builtin.List.listTooLong ((List.toArray xs).size + (List.toArray ys).size)) = true := extend_door (by simp only [List.size_toArray]; rw [sizeLine_eq]; omega)
  have hs1 : (List.toArray xs).toList.length ≤ sizeLine := by simp only [List.toList_toArray]; rw [sizeLine_eq]; omega
  have hs2 : (List.toArray xs).size + (List.toArray ys).size ≤ sizeLine + 1 := by simp only [List.size_toArray]; rw [sizeLine_eq]; omega
  cases ys with
  | nil =>
    refine kxn_extend F N hb rfl (upd_of U) hd hs1 hs2 fun h' F' N' => h h' n F' ?_
    rw [List.append_nil]
    exact N'
  | cons y r => exact kl_extend (l := xs ++ y :: r) F N hb (by simp) (by simp) (upd_of U) hd hs1 hs2 fun h' F' N' => h h' (n + 1) F' N'

noncomputable def EntL (news : List (Addr × Obj)) (x : Addr) (rules : List (List Str × Bool)) : Prop :=
  ∃ dx es n u n2 rl vs n3, (x, instObj 52 dx) ∈ news ∧ (dx, dictOf es n) ∈ news ∧ getL (Str.ofString "useragents") es = some (some (.ref u)) ∧ getL (Str.ofString "rulelines") es = some (some (.ref rl)) ∧
    getL (Str.ofString "delay") es = some (some .none) ∧ getL (Str.ofString "req_rate") es = some (some .none) ∧ (u, listOf (List.toArray []) n2) ∈ news ∧ (rl, listOf (List.toArray vs) n3) ∈ news ∧
    ∀ (g h : Heap) (L : Addr), News g L h news → RulesAre h vs rules
theorem EntL.sub {news news' : List (Addr × Obj)} {x : Addr} {rules : List (List Str × Bool)} (hs : ∀ p ∈ news, p ∈ news') (e : EntL news x rules) : EntL news' x rules := by
  obtain ⟨dx, es, n, u, n2, rl, vs, n3, a, b, c, d, e1, e2, f, g1, h⟩ := e
  exact ⟨dx, es, n, u, n2, rl, vs, n3, hs _ a, hs _ b, c, d, e1, e2, hs _ f, hs _ g1, fun g h' L N => h g h' L fun p hp => N p (hs p hp)⟩
theorem EntL.at {news : List (Addr × Obj)} {x : Addr} {rules : List (List Str × Bool)} (e : EntL news x rules) {g h : Heap} {L : Addr} (N : News g L h news) : EntAt h x rules := by
  obtain ⟨dx, es, n, u, n2, rl, vs, n3, a, b, c, d, e1, e2, f, g1, h⟩ := e
  exact ⟨dx, es, n, u, rl, vs, InstAt.of_news N a b, c, d, e1, e2, News.isList N f, News.isList N g1, h _ _ _ N⟩
theorem entL_rule {news : List (Addr × Obj)} {x dx u rl y dy us : Addr} {es es2 : List DictEntry} {n n2 n3 n4 n5 : Nat} {ws : List Value} {ags : List Str} {v : Bool} {g h : Heap} {L : Addr} (N0 : News g L h news) (a1 : (x, instObj 52 dx) ∈ news) (a2 : (dx, dictOf es n) ∈ news) (b1 : getL (Str.ofString "useragents") es = some (some (.ref u))) (b2 : getL (Str.ofString "rulelines") es = some (some (.ref rl)))
    (b3 : getL (Str.ofString "delay") es = some (some .none)) (b4 : getL (Str.ofString "req_rate") es = some (some .none)) (c1 : (u, listOf (List.toArray []) n2) ∈ news) (c2 : (rl, listOf (List.toArray [Value.ref y]) n3) ∈ news)
    (d1 : (y, instObj 52 dy) ∈ news) (d2 : (dy, dictOf es2 n4) ∈ news) (e1 : getL (Str.ofString "useragents") es2 = some (some (.ref us))) (e2 : getL (Str.ofString "allowance") es2 = some (some (.bool v))) (e3 : getL (Str.ofString "applies_to") es2 = some none)
    (f1 : (us, listOf (List.toArray ws) n5) ∈ news) (f2 : StrsAre ws ags) (f3 : ∀ a ∈ ags, a.length ≤ 10) : EntL news x [(ags, v)] :=
  ⟨dx, es, n, u, n2, rl, _, n3, a1, a2, b1, b2, b3, b4, c1, c2, fun g h L N => .cons ⟨dy, es2, n4, us, ws, InstAt.of_news N d1 d2, e1, e2, e3, News.isList N f1, f2, f3⟩ .nil⟩
theorem entL_bare {news : List (Addr × Obj)} {x dx u rl : Addr} {es : List DictEntry} {n n2 n3 : Nat} {g h : Heap} {L : Addr} (N0 : News g L h news) (a1 : (x, instObj 52 dx) ∈ news) (a2 : (dx, dictOf es n) ∈ news) (b1 : getL (Str.ofString "useragents") es = some (some (.ref u))) (b2 : getL (Str.ofString "rulelines") es = some (some (.ref rl)))
    (b3 : getL (Str.ofString "delay") es = some (some .none)) (b4 : getL (Str.ofString "req_rate") es = some (some .none)) (c1 : (u, listOf (List.toArray []) n2) ∈ news) (c2 : (rl, listOf (List.toArray []) n3) ∈ news) : EntL news x [] :=
  ⟨dx, es, n, u, n2, rl, _, n3, a1, a2, b1, b2, b3, b4, c1, c2, fun g h L N => .nil⟩


theorem ext_get {prog : Program} {E : Value → Shared → Prop} {g : Heap} {L D b : Addr} {m : Str → Option Value} {news : List (Addr × Obj)} {u : Obj → List (Addr × Obj)} {xs ys : List Value} {n n2 : Nat} {Q : Value → Shared → Prop} (F : Fr g L s.heap m) (N : News g L s.heap news) (hb : s.heap.get? b = some (listOf (List.toArray ys) n2))
    (U : UpdF D (listOf (List.toArray xs) n) news u) (hz : xs.length + ys.length ≤ 1000)
    (h : ∀ h' n', Fr g L h' m → News g L h' (u (listOf (List.toArray (xs ++ ys)) n')) → Q .none { s with heap := h' }) : wpAny (model prog w) A (call (.builtin "list.extend") [.ref D, .ref b]) Q E s := by
  have hd : ¬(!(List.toArray xs).isEmpty && Builtin.List.listTooLong ((List.toArray xs).size + (List.toArray ys).size)) = true := extend_door (by simp only [List.size_toArray]; rw [sizeLine_eq]; omega)
  have hs1 : (List.toArray xs).size ≤ sizeLine := by simp only [List.size_toArray]; rw [sizeLine_eq]; omega
  have hs2 : (List.toArray xs).size + (List.toArray ys).size ≤ sizeLine + 1 := by simp only [List.size_toArray]; rw [sizeLine_eq]; omega
  cases ys with
  | nil =>
    obtain ⟨pre, post, e1, e2, a, c⟩ := (upd_of U).split
    rw [e1] at N
    have z := N (D, _) (List.mem_append_right _ (.head _))
    refine call_meets PySem.F.slot_list_extend ⟨_, z.1, rfl⟩ PySem.F.entry_list_extend (PySem.F.args_list_extend_2 _ _) (PySem.AutoSeq1.list_extend_list_list_0 D _ n b #[] n2 hd hs1 hs2) ⟨z.1, hb, h _ n (F.change (Heap.SameBut.update ..) z.2.1 z.2.2) ?_⟩
    rw [List.append_nil, e2]
    exact kl_turn0 (fun x => x ++ #[]) N a c (by simp) rfl
  | cons y r =>
    obtain ⟨pre, post, e1, e2, a, c⟩ := (upd_of (o' := listOf (List.toArray (xs ++ y :: r)) (n + 1)) U).split
    rw [e1] at N
    have z := N (D, _) (List.mem_append_right _ (.head _))
    refine call_meets PySem.F.slot_list_extend ⟨_, z.1, rfl⟩ PySem.F.entry_list_extend (PySem.F.args_list_extend_2 _ _) (PySem.AutoSeq1.list_extend_list_list_0 D _ n b _ n2 hd hs1 hs2) ⟨z.1, hb, h _ (n + 1) (F.change (Heap.SameBut.update ..) z.2.1 z.2.2) ?_⟩
    rw [e2]
    refine kl_turn _ N a c ?_ ?_
    · apply Array.toList_inj.mp
      simp
    · simp
theorem record_spec {q : Str} {nms : List (Str × NameKind)} {mr : List (Str × Const)} {L0 f0 : Addr} {cd0 : Value} {l : Addr} {vs : List Value} {nl : Nat} {ags : List Str} {v : Bool} {R : Result → Shared → Prop} {k : Nat} (C : Cx w mean mg mb (k + 3) (callerA.deeper (envOfC q { kind := .function, names := nms, isGenerator := false, isCoroutine := false, more := mr } L0 f0 cd0)) base [envOfC q { kind := .function, names := nms, isGenerator := false, isCoroutine := false, more := mr } L0 f0 cd0] s.heap)
    (hl : s.heap.get? l = some (listOf (List.toArray vs) nl)) (hs : StrsAre vs ags) (hlen : ags.length ≤ 20) (hagl : ∀ a ∈ ags, a.length ≤ 10)
    (hR : ∀ a h' tk nf, s.heap.StaysIn h' → (∀ p ∈ nf, h'.get? p.1 = some p.2 ∧ s.heap.get? p.1 = none) → EntL nf a [(ags, v)] → (nf.all fun p => !isCellB0 p.2) = true → R (.ok (.ret (.ref a))) { s with heap := h', toks := tk }) :
    codeAny (MM w) (callerA.deeper (envOfC q { kind := .function, names := nms, isGenerator := false, isCoroutine := false, more := mr } L0 f0 cd0)) (.call (.ref 101) ⟨[.ref l, .bool v], []⟩) R s := by
  refine enter C (by k_is) (by k_is) (BindsTo.of_eq rfl) (locs rfl) rfl rfl rfl (by decide) ?_
  intro L h₁ tk F N C'
  have X := C.X
  have T := C.T
  have B := C.B
  have hvl := hs.length
  k_steps
  rename Fr _ _ _ _ => F1
  rename News _ _ _ _ => N1
  refine' ext_get (xs := []) F1 N1 ?b ?U ?z ?_
  case b => exact F1.keep _ _ hl
  case U => k_updF
  case z => rw [List.length_nil, hvl]; omega
  intro hx nx Fx Nx
  clear F1 N1
  rw [List.nil_append] at Nx
  k_steps
  dsimp only
  rename Fr _ _ _ _ => Fe
  rename News _ _ _ _ => Ne
  exact hR _ _ _ _ Fe.keep (newsOut Ne) (entL_rule (v := v) Ne (.tail _ (.tail _ (.head _))) (.tail _ (.tail _ (.tail _ (.head _)))) (by rfl) (by rfl) (by rfl) (by rfl) (.tail _ (.head _)) (.head _) (.tail _ (.tail _ (.tail _ (.tail _ (.tail _ (.tail _ (.head _))))))) (.tail _ (.tail _ (.tail _ (.tail _ (.tail _ (.tail _ (.tail _ (.head _)))))))) (by rfl) (by rfl) (by rfl) (.tail _ (.tail _ (.tail _ (.tail _ (.tail _ (.head _)))))) hs hagl) rfl
end
section
-- PComb
section
variable (rs ks : List Int)
noncomputable def sg (p : Nat) : Int := rs.getD p 0
noncomputable abbrev isPr (x y : Nat) : Prop := rs.getD x 0 ∈ ks ∧ rs.getD y 0 = rs.getD x 0 + 1
noncomputable def rstep0 (p : Nat) (st : List Nat × List (Nat × Nat)) : List Nat × List (Nat × Nat) :=
  match st.1 with
  | [] => ([p], st.2)
  | q :: t => if isPr rs ks p q then (t, st.2 ++ [(p, q)]) else (p :: q :: t, st.2)
noncomputable def lrun (xs : List Nat) : List Nat × List (Nat × Nat) := xs.foldl (closedStep rs ks) ([], [])
noncomputable def rrun (xs : List Nat) : List Nat × List (Nat × Nat) := xs.foldr (rstep0 rs ks) ([], [])
end
section
variable {rs ks : List Int}
theorem cs_snd (S : List Nat) (P : List (Nat × Nat)) (p : Nat) : (closedStep rs ks (S, P) p).1 = (closedStep rs ks (S, []) p).1 ∧ (closedStep rs ks (S, P) p).2 = P ++ (closedStep rs ks (S, []) p).2 := by
  unfold closedStep
  dsimp only
  cases S.getLast? with
  | none => simp
  | some q =>
    dsimp only
    split <;> simp
theorem lfold_snd : ∀ (xs : List Nat) (S : List Nat) (P : List (Nat × Nat)), (xs.foldl (closedStep rs ks) (S, P)).1 = (xs.foldl (closedStep rs ks) (S, [])).1 ∧ (xs.foldl (closedStep rs ks) (S, P)).2 = P ++ (xs.foldl (closedStep rs ks) (S, [])).2
  | [], S, P => by simp
  | x :: xs, S, P => by
    rw [List.foldl_cons, List.foldl_cons]
    obtain ⟨h1, h2⟩ := cs_snd (rs := rs) (ks := ks) S P x
    have e : closedStep rs ks (S, P) x = ((closedStep rs ks (S, []) x).1, P ++ (closedStep rs ks (S, []) x).2) := Prod.ext h1 h2
    rw [e]
    obtain ⟨a1, a2⟩ := lfold_snd xs (closedStep rs ks (S, []) x).1 (P ++ (closedStep rs ks (S, []) x).2)
    obtain ⟨b1, b2⟩ := lfold_snd xs (closedStep rs ks (S, []) x).1 (closedStep rs ks (S, []) x).2
    have e2 : closedStep rs ks (S, []) x = ((closedStep rs ks (S, []) x).1, (closedStep rs ks (S, []) x).2) := rfl
    refine ⟨?_, ?_⟩
    · rw [a1]; rw [e2, b1]
    · rw [a2]; rw [e2, b2, List.append_assoc]
theorem rs_snd (S : List Nat) (P : List (Nat × Nat)) (p : Nat) : (rstep0 rs ks p (S, P)).1 = (rstep0 rs ks p (S, [])).1 ∧ (rstep0 rs ks p (S, P)).2 = P ++ (rstep0 rs ks p (S, [])).2 := by
  unfold rstep0
  cases S with
  | nil => simp
  | cons q t =>
    dsimp only
    split <;> simp
theorem rfold_snd : ∀ (xs : List Nat) (S : List Nat) (P : List (Nat × Nat)), (xs.foldr (rstep0 rs ks) (S, P)).1 = (xs.foldr (rstep0 rs ks) (S, [])).1 ∧ (xs.foldr (rstep0 rs ks) (S, P)).2 = P ++ (xs.foldr (rstep0 rs ks) (S, [])).2
  | [], S, P => by simp
  | x :: xs, S, P => by
    rw [List.foldr_cons, List.foldr_cons]
    obtain ⟨h1, h2⟩ := rfold_snd xs S P
    obtain ⟨a1, a2⟩ := rs_snd (rs := rs) (ks := ks) (xs.foldr (rstep0 rs ks) (S, [])).1 (P ++ (xs.foldr (rstep0 rs ks) (S, [])).2) x
    obtain ⟨b1, b2⟩ := rs_snd (rs := rs) (ks := ks) (xs.foldr (rstep0 rs ks) (S, [])).1 (xs.foldr (rstep0 rs ks) (S, [])).2 x
    have e : xs.foldr (rstep0 rs ks) (S, P) = ((xs.foldr (rstep0 rs ks) (S, [])).1, P ++ (xs.foldr (rstep0 rs ks) (S, [])).2) := Prod.ext h1 h2
    have e2 : xs.foldr (rstep0 rs ks) (S, []) = ((xs.foldr (rstep0 rs ks) (S, [])).1, (xs.foldr (rstep0 rs ks) (S, [])).2) := rfl
    refine ⟨?_, ?_⟩
    · rw [e, a1]; rw [e2, b1]
    · rw [e, a2]; rw [e2, b2, List.append_assoc]
theorem l_cut (hk : ∀ k ∈ ks, k + 1 ∉ ks) {u v : List Nat} {x y : Nat} (h : isPr rs ks x y) : (lrun rs ks (u ++ x :: y :: v)).2.Perm ((x, y) :: (lrun rs ks (u ++ v)).2) := by
  unfold lrun
  rw [List.foldl_append, List.foldl_append, List.foldl_cons, List.foldl_cons]
  obtain ⟨S, P⟩ := u.foldl (closedStep rs ks) ([], [])
  have e1 : closedStep rs ks (S, P) x = (S ++ [x], P) := by
    unfold closedStep
    dsimp only
    cases S.getLast? with
    | none => rfl
    | some q =>
      dsimp only
      rw [if_neg]
      rintro ⟨a, b⟩
      exact hk _ a (b ▸ h.1)
  have e2 : closedStep rs ks (S ++ [x], P) y = (S, P ++ [(x, y)]) := by
    rw [closedStep_concat]
    exact if_pos h
  rw [e1, e2]
  obtain ⟨_, a2⟩ := lfold_snd (rs := rs) (ks := ks) v S (P ++ [(x, y)])
  obtain ⟨_, b2⟩ := lfold_snd (rs := rs) (ks := ks) v S P
  rw [a2, b2]
  rw [List.append_assoc]
  exact List.perm_middle
theorem r_cut (hk : ∀ k ∈ ks, k + 1 ∉ ks) {u v : List Nat} {x y : Nat} (h : isPr rs ks x y) : (rrun rs ks (u ++ x :: y :: v)).2.Perm ((x, y) :: (rrun rs ks (u ++ v)).2) := by
  unfold rrun
  rw [List.foldr_append, List.foldr_append, List.foldr_cons, List.foldr_cons]
  obtain ⟨S, P⟩ := v.foldr (rstep0 rs ks) ([], [])
  have e1 : rstep0 rs ks y (S, P) = (y :: S, P) := by
    unfold rstep0
    cases S with
    | nil => rfl
    | cons q t =>
      dsimp only
      rw [if_neg]
      rintro ⟨a, b⟩
      exact hk _ h.1 (h.2 ▸ a)
  have e2 : rstep0 rs ks x (y :: S, P) = (S, P ++ [(x, y)]) := by
    unfold rstep0
    dsimp only
    rw [if_pos h]
  rw [e1, e2]
  obtain ⟨_, a2⟩ := rfold_snd (rs := rs) (ks := ks) u S (P ++ [(x, y)])
  obtain ⟨_, b2⟩ := rfold_snd (rs := rs) (ks := ks) u S P
  rw [a2, b2, List.append_assoc]
  exact List.perm_middle
theorem l_none : ∀ (xs S : List Nat), (∀ u x y v, S ++ xs = u ++ x :: y :: v → ¬ isPr rs ks x y) → xs.foldl (closedStep rs ks) (S, []) = (S ++ xs, [])
  | [], S, _ => by simp
  | x :: xs, S, h => by
    rw [List.foldl_cons]
    have e : closedStep rs ks (S, []) x = (S ++ [x], []) := by
      rcases List.eq_nil_or_concat S with rfl | ⟨S', q, rfl⟩
      · rfl
      · rw [List.concat_eq_append] at *
        rw [closedStep_concat, if_neg]
        exact h S' q x xs (by simp)
    rw [e, l_none xs (S ++ [x]) (by simpa using h)]
    simp
theorem r_none : ∀ (xs : List Nat), (∀ u x y v, xs = u ++ x :: y :: v → ¬ isPr rs ks x y) → xs.foldr (rstep0 rs ks) ([], []) = (xs, [])
  | [], _ => rfl
  | x :: xs, h => by
    rw [List.foldr_cons, r_none xs (fun u a b v e => h (x :: u) a b v (by rw [e]; rfl))]
    cases xs with
    | nil => rfl
    | cons q t =>
      unfold rstep0
      dsimp only
      rw [if_neg (h [] x q t rfl)]
theorem lr_perm (hk : ∀ k ∈ ks, k + 1 ∉ ks) : ∀ (n : Nat) (xs : List Nat), xs.length ≤ n → (lrun rs ks xs).2.Perm (rrun rs ks xs).2 := by
  intro n
  induction n with
  | zero =>
    intro xs h
    have : xs = [] := List.length_eq_zero_iff.mp (by omega)
    subst this
    exact List.Perm.refl _
  | succ n ih =>
    intro xs hl
    by_cases h : ∃ u x y v, xs = u ++ x :: y :: v ∧ isPr rs ks x y
    · obtain ⟨u, x, y, v, rfl, hp⟩ := h
      refine (l_cut hk hp).trans (List.Perm.trans ?_ (r_cut hk hp).symm)
      refine List.Perm.cons _ (ih _ ?_)
      simp at hl ⊢
      omega
    · have hno : ∀ u x y v, xs = u ++ x :: y :: v → ¬ isPr rs ks x y := fun u x y v e hp => h ⟨u, x, y, v, e, hp⟩
      have e1 := l_none (rs := rs) (ks := ks) xs [] (by simpa using hno)
      have e2 := r_none (rs := rs) (ks := ks) xs hno
      unfold lrun rrun
      rw [e1, e2]
theorem closed_perm (hk : ∀ k ∈ ks, k + 1 ∉ ks) (b e : Nat) : (closedF rs ks b e).Perm (rrun rs ks (List.range' b (e - b))).2 := lr_perm hk _ (List.range' b (e - b)) (Nat.le_refl _)
/-- the signs of a part -/
noncomputable def sgs (rs : List Int) (ps : List Nat) : List Int := ps.map fun p => rs.getD p 0
noncomputable def headI (ss : List Int) : List Int := ss.takeWhile fun n => n != 7
noncomputable def hasP (ks : List Int) : List Int → Bool
  | a :: b :: r => (ks.contains a && b == a + 1) || hasP ks (b :: r)
  | _ => false
noncomputable def okS (ks : List Int) (al : Bool) (ss : List Int) : Bool := !(hasP ks (headI ss)) || (al && (headI ss).contains 6)
noncomputable def okP (rs ks : List Int) (al : Bool) (ps : List Nat) : Bool := okS ks al (sgs rs ps)
theorem hasP_snoc (ks : List Int) : ∀ (l : List Int) (a b : Int), hasP ks (l ++ [a, b]) = (hasP ks (l ++ [a]) || (ks.contains a && b == a + 1))
  | [], a, b => by simp [hasP]
  | [c], a, b => by simp [hasP, Bool.or_assoc]
  | c :: d :: l, a, b => by
    have ih := hasP_snoc ks (d :: l) a b
    simp only [List.cons_append, hasP] at ih ⊢
    rw [ih, Bool.or_assoc]
theorem headI_free : ∀ {l : List Int}, (∀ x ∈ l, x ≠ 7) → headI l = l
  | [], _ => rfl
  | x :: r, h => by
    unfold headI
    rw [List.takeWhile_cons, if_pos (by simpa using h x (.head _))]
    have := headI_free (l := r) fun y hy => h y (.tail _ hy)
    unfold headI at this
    rw [this]
theorem headI_stop : ∀ {l r : List Int}, (∀ x ∈ l, x ≠ 7) → headI (l ++ 7 :: r) = l
  | [], r, _ => by simp [headI]
  | x :: l, r, h => by
    unfold headI
    rw [List.cons_append, List.takeWhile_cons, if_pos (by simpa using h x (.head _))]
    have := headI_stop (l := l) (r := r) fun y hy => h y (.tail _ hy)
    unfold headI at this
    rw [this]
theorem headI_pre : ∀ {l r : List Int}, (∀ x ∈ l, x ≠ 7) → headI (l ++ r) = l ++ headI r
  | [], r, _ => by simp
  | x :: l, r, h => by
    unfold headI
    rw [List.cons_append, List.takeWhile_cons, if_pos (by simpa using h x (.head _))]
    have := headI_pre (l := l) (r := r) fun y hy => h y (.tail _ hy)
    unfold headI at this
    rw [this]; rfl
/-- the pile's places -/
theorem run_mem {b : Nat} (i : Nat) : ∀ q ∈ (closedRun rs ks b i).1, b ≤ q ∧ q < b + i := by
  induction i with
  | zero => intro q hq; simp [closedRun] at hq
  | succ i ih =>
    intro q hq
    rw [closedRun_succ] at hq
    unfold closedStep at hq
    split at hq
    · rcases List.mem_append.mp hq with h | h
      · have := ih q h; omega
      · rw [List.mem_singleton.mp h]; omega
    · split at hq
      · have := ih q ((List.dropLast_sublist _).subset hq); omega
      · rcases List.mem_append.mp hq with h | h
        · have := ih q h; omega
        · rw [List.mem_singleton.mp h]; omega
theorem hasP_mono_snoc (l : List Int) (a : Int) : hasP ks (l ++ [a]) = false → hasP ks l = false := by
  intro h
  rcases List.eq_nil_or_concat l with rfl | ⟨l', b, rfl⟩
  · rfl
  · rw [List.concat_eq_append] at *
    rw [List.append_assoc] at h
    rw [show [b] ++ [a] = [b, a] from rfl, hasP_snoc] at h
    simp only [Bool.or_eq_false_iff] at h
    exact h.1
theorem run_good {b : Nat} (i : Nat) : hasP ks (sgs rs (closedRun rs ks b i).1) = false := by
  induction i with
  | zero => simp [closedRun, sgs, hasP]
  | succ i ih =>
    rw [closedRun_succ]
    generalize closedRun rs ks b i = st at ih
    obtain ⟨S, P⟩ := st
    dsimp only at ih
    rcases List.eq_nil_or_concat S with rfl | ⟨S', q, rfl⟩
    · simp [closedStep, sgs, hasP]
    · rw [List.concat_eq_append] at *
      rw [closedStep_concat]
      split
      · unfold sgs at ih ⊢
        rw [List.map_append] at ih
        exact hasP_mono_snoc _ _ ih
      · rename_i hno
        unfold sgs at ih ⊢
        rw [List.map_append] at ih
        rw [List.map_append, List.map_append, List.append_assoc]
        show hasP ks (List.map _ S' ++ [rs.getD q 0, rs.getD (b + i) 0]) = false
        rw [hasP_snoc]
        rw [show List.map (fun p => rs.getD p 0) [q] = [rs.getD q 0] from rfl] at ih
        rw [ih, Bool.false_or]
        rw [Bool.and_eq_false_iff]
        by_cases h1 : rs.getD q 0 ∈ ks
        · right
          have : ¬ rs.getD (b + i) 0 = rs.getD q 0 + 1 := fun h2 => hno ⟨h1, h2⟩
          simpa using this
        · left
          simpa using h1
end
-- PStr
noncomputable def sgn (n : Int) : Str := Txt.item (Str.ofString "()[]{}!/*") n
noncomputable def kbit (x : Int) (k : Int) : Bool := decide ((x.fdiv (2 ^ (k.fdiv 2).toNat)).fmod 2 = 1)
noncomputable def opn (k : Int) : Int := if k = 0 then 7 else if k = 2 then 9 else 25
noncomputable def opS (n : Int) : Str := if n = 7 then Str.ofString "(" else if n = 9 then Str.ofString "[" else Str.ofString "{"
noncomputable def clS (n : Int) : Str := if n = 7 then Str.ofString ")" else if n = 9 then Str.ofString "]" else Str.ofString "}"
noncomputable def pairS (n : Int) : Str := opS n ++ clS n
noncomputable def cutP (rs : List Int) (n : Int) : Bool := rs.getD n.toNat 0 == 7
noncomputable def markP (rs : List Int) (al : Bool) (n : Int) : Bool := rs.getD n.toNat 0 == 6 && al
noncomputable def ags (kn : List Int) : List Str := Str.ofString "*" :: List.map pairS (List.map opn kn)
noncomputable def freeR (al : Bool) : List (List Str × Bool) := if al = true then [([Str.ofString "!"], true)] else []
noncomputable def stopF (rs : List Int) (al : Bool) : Nat := ((List.range rs.length).find? fun p => rs.getD p 0 == 7 || (rs.getD p 0 == 6 && al)).getD rs.length
noncomputable def begF (cuts : List Int) : Nat → Int
  | 0 => 0
  | i + 1 => cuts.getD i 0 + 1
noncomputable def mF (marks : List Int) (b c : Int) : Int := ((marks.filter fun p => decide (b ≤ p) && decide (p < c)).map (· + 1)).foldl max b
noncomputable def dueF (rs kn marks cuts : List Int) : Nat → List (Nat × Nat)
  | 0 => []
  | i + 1 => dueF rs kn marks cuts i ++ closedF rs kn (mF marks (begF cuts i) (cuts.getD i 0)).toNat (cuts.getD i 0).toNat

noncomputable def CH : List Nat := [40, 41, 91, 93, 123, 125, 33, 47, 42]
noncomputable def ch (n : Int) : Nat := CH.getD n.toNat 0
theorem mkS_app (a b : List Nat) : mkS a ++ mkS b = mkS (a ++ b) := by
  show Str.mk (a.toArray ++ b.toArray) = Str.mk (a ++ b).toArray
  congr 1
  apply Array.ext'
  simp
theorem sg_l6 : Str.ofString "!" = mkS [33] := by decide +kernel
theorem nine {n : Int} (h : 0 ≤ n ∧ n < 9) : ∃ k : Fin 9, n = ((k.val : Nat) : Int) := ⟨⟨n.toNat, (Int.toNat_lt h.1).mpr h.2⟩, (Int.toNat_of_nonneg h.1).symm⟩
theorem sixteen {n : Int} (h : 0 ≤ n ∧ n < 16) : ∃ k : Fin 16, n = ((k.val : Nat) : Int) := ⟨⟨n.toNat, (Int.toNat_lt h.1).mpr h.2⟩, (Int.toNat_of_nonneg h.1).symm⟩
theorem step_fin : ∀ k : Fin 16, k.val ≠ 9 → ∀ n ∈ rowStep [] ((k.val : Nat) : Int), 0 ≤ n ∧ n < 9 := by decide +kernel
theorem step_mem {row : List Int} {f n : Int} (h : n ∈ rowStep row f) : n ∈ row ∨ n ∈ rowStep [] f := by
  unfold rowStep at h ⊢
  split at h
  · rename_i hc
    rw [if_pos hc]
    exact List.mem_append.mp h
  · rename_i hc
    rw [if_neg hc]
    split at h
    · rename_i hd
      rw [if_pos hd]
      exact List.mem_append.mp h
    · rename_i hd
      rw [if_neg hd]
      rcases List.mem_append.mp h with h | h
      · rcases List.mem_cons.mp h with h | h
        · exact .inr (h ▸ .head _)
        · exact .inl h
      · exact .inr (.tail _ h)
theorem rowStep_bound {row : List Int} {f : Int} (hr : ∀ n ∈ row, 0 ≤ n ∧ n < 9) (hf : 0 ≤ f ∧ f < 16) (h9 : f ≠ 9) : ∀ n ∈ rowStep row f, 0 ≤ n ∧ n < 9 := by
  intro n hn
  obtain ⟨k, rfl⟩ := sixteen hf
  rcases step_mem hn with h | h
  · exact hr n h
  · exact step_fin k (fun e => h9 (congrArg Nat.cast e)) n h
theorem row_bound' : ∀ (ns acc : List Int), (∀ n ∈ ns, 0 ≤ n ∧ n < 16 ∧ n ≠ 9) → (∀ n ∈ acc, 0 ≤ n ∧ n < 9) → ∀ n ∈ ns.foldl rowStep acc, 0 ≤ n ∧ n < 9
  | [], acc, _, ha => ha
  | f :: r, acc, h, ha => by
    rw [List.foldl_cons]
    have hf := h f (.head _)
    exact row_bound' r _ (fun n hn => h n (.tail _ hn)) (rowStep_bound ha ⟨hf.1, hf.2.1⟩ hf.2.2)
theorem row_bound {ns : List Int} (h : ∀ n ∈ ns, 0 ≤ n ∧ n < 16) : ∀ n ∈ rowF ns, 0 ≤ n ∧ n < 9 :=
  row_bound' _ _ (cut_facts h) (fun n hn => by cases hn)
theorem sgA_fin : ∀ k : Fin 16, k.val ≠ 9 → k.val < 10 → sgA ((k.val : Nat) : Int) = mkS [ch ((k.val : Nat) : Int)] := by decide +kernel
theorem sgC_fin : ∀ k : Fin 16, ¬ k.val < 10 → sgA ((k.val : Nat) : Int) = mkS [ch ((((k.val : Nat) : Int) - 10).fmod 3 * 2)] ∧ sgB ((k.val : Nat) : Int) = mkS [ch ((((k.val : Nat) : Int) - 10).fmod 3 * 2 + 1)] := by decide +kernel
theorem txt_step {row : List Int} {f : Int} (hf : 0 ≤ f ∧ f < 16) (h9 : f ≠ 9) : txtStep (mkS (row.map ch)) f = mkS ((rowStep row f).map ch) := by
  obtain ⟨k, rfl⟩ := sixteen hf
  unfold txtStep rowStep
  by_cases hc : ((k.val : Nat) : Int) < 10
  · rw [if_pos hc, if_pos hc, sgA_fin k (fun e => h9 (congrArg Nat.cast e)) (Int.ofNat_lt.mp hc), mkS_app, List.map_append]; rfl
  · rw [if_neg hc, if_neg hc, (sgC_fin k (fun h => hc (Int.ofNat_lt.mpr h))).1, (sgC_fin k (fun h => hc (Int.ofNat_lt.mpr h))).2]
    by_cases hd : ((k.val : Nat) : Int) < 13
    · rw [if_pos hd, if_pos hd, mkS_app, mkS_app, List.map_append, List.append_assoc]; rfl
    · rw [if_neg hd, if_neg hd, mkS_app, mkS_app, List.map_append, List.map_cons]; rfl
theorem txt_fold : ∀ (ns row : List Int), (∀ n ∈ ns, 0 ≤ n ∧ n < 16 ∧ n ≠ 9) → ns.foldl txtStep (mkS (row.map ch)) = mkS ((ns.foldl rowStep row).map ch)
  | [], row, _ => rfl
  | f :: r, row, h => by
    have hf := h f (.head _)
    rw [List.foldl_cons, List.foldl_cons, txt_step ⟨hf.1, hf.2.1⟩ hf.2.2]
    exact txt_fold r _ fun n hn => h n (.tail _ hn)
theorem text_row {ns : List Int} (h : ∀ n ∈ ns, 0 ≤ n ∧ n < 16) : textF ns = mkS ((rowF ns).map ch) := by
  unfold textF rowF
  rw [show Str.ofString "" = mkS (([] : List Int).map ch) by decide +kernel]
  exact txt_fold _ _ (cut_facts h)
theorem textF_len' {ns : List Int} (h : ∀ n ∈ ns, 0 ≤ n ∧ n < 16) : (textF ns).length = (rowF ns).length := by
  rw [text_row h]
  show (List.toArray _).size = _
  simp
theorem sgn_fin : ∀ k : Fin 9, sgn ((k.val : Nat) : Int) = mkS [ch ((k.val : Nat) : Int)] := by decide +kernel
theorem sgn_ch {n : Int} (h : 0 ≤ n ∧ n < 9) : sgn n = mkS [ch n] := by
  obtain ⟨k, rfl⟩ := nine h
  exact sgn_fin k
theorem sgn_map {rs : List Int} (h : ∀ n ∈ rs, 0 ≤ n ∧ n < 9) : rs.map sgn = (rs.map ch).map fun c => mkS [c] := by
  rw [List.map_map]
  exact List.map_congr_left fun n hn => sgn_ch (h n hn)
theorem join_row {rs : List Int} (h : ∀ n ∈ rs, 0 ≤ n ∧ n < 9) : Txt.join (Str.ofString "") (rs.map sgn) = mkS (rs.map ch) := by
  rw [sgn_map h]; exact join_eq _
theorem textOf_row {rs : List Int} {ps : List Nat} (hp : ∀ p ∈ ps, p < rs.length) : textOf (mkS (rs.map ch)) ps = mkS ((sgs rs ps).map ch) := by
  unfold textOf sgs
  rw [List.map_map]
  congr 1
  refine List.map_congr_left fun p hp' => ?_
  have hl := hp p hp'
  show (List.toArray (rs.map ch)).getD p 0 = ch (rs.getD p 0)
  rw [List.getD_eq_getElem?_getD, List.getElem?_eq_getElem hl]
  simp [hl]
theorem ch_fin : ∀ k l : Fin 9, ch ((k.val : Nat) : Int) = ch ((l.val : Nat) : Int) → k = l := by decide +kernel
theorem ch_inj {a b : Int} (ha : 0 ≤ a ∧ a < 9) (hb : 0 ≤ b ∧ b < 9) (h : ch a = ch b) : a = b := by
  obtain ⟨k, rfl⟩ := nine ha
  obtain ⟨l, rfl⟩ := nine hb
  rw [ch_fin k l h]
theorem mkS_list (l : List Nat) : (mkS l).cps.toList = l := by simp [mkS]
theorem mkS_of (x : Str) : x = mkS x.cps.toList := by simp [mkS]
theorem tw_self {p : Nat → Bool} : ∀ {l : List Nat}, (∀ c ∈ l, p c = true) → l.takeWhile p = l
  | [], _ => rfl
  | x :: r, h => by rw [List.takeWhile_cons, if_pos (h x (.head _)), tw_self fun c hc => h c (.tail _ hc)]
theorem headC {l : List Nat} : headOf (mkS l) = mkS (l.takeWhile (· != 47)) := by
  have h1 : Str.join (⟨#[47]⟩ : Str) (Txt.split (mkS l) ⟨#[47]⟩) = mkS l := StrLaws.join_split _ _
  have h2 := StrLaws.split_free (mkS l) 47
  have e7 : Str.ofString "/" = ⟨#[47]⟩ := by decide +kernel
  unfold headOf
  rw [e7]
  revert h1 h2
  generalize Txt.split (mkS l) ⟨#[47]⟩ = parts
  intro h1 h2
  cases parts with
  | nil =>
    have : l = [] := by
      have := congrArg (fun x : Str => x.cps.toList) h1
      simpa [Str.join, mkS, Str.empty] using this.symm
    subst this
    rfl
  | cons p r =>
    show p = _
    have hp : ∀ c ∈ p.cps.toList, (c != 47) = true := fun c hc => by
      rw [bne_iff_ne]; rintro rfl; exact h2 p (.head _) hc
    cases r with
    | nil =>
      have e : p = mkS l := h1
      have e2 : p.cps.toList = l := by rw [e, mkS_list]
      rw [e2] at hp
      rw [tw_self hp]; exact e
    | cons q r =>
      have e : p ++ ⟨#[47]⟩ ++ Str.join ⟨#[47]⟩ (q :: r) = mkS l := h1
      have e2 : p.cps.toList ++ 47 :: (Str.join (⟨#[47]⟩ : Str) (q :: r)).cps.toList = l := by
        have := congrArg (fun x : Str => x.cps.toList) e
        rw [mkS_list] at this
        rw [← this]
        show _ = ((p.cps ++ #[47]) ++ (Str.join (⟨#[47]⟩ : Str) (q :: r)).cps).toList
        simp
      rw [← e2, List.takeWhile_append_of_pos (fun c hc => hp c hc)]
      simp [List.takeWhile_cons]
      exact mkS_of p
-- PStr2
theorem slash_fin : ∀ k : Fin 9, (ch ((k.val : Nat) : Int) != 47) = (((k.val : Nat) : Int) != 7) := by decide +kernel
theorem ch_mem_fin : ∀ k : Fin 9, ch ((k.val : Nat) : Int) ∈ CH := by decide +kernel
theorem head_row {ss : List Int} (h : ∀ n ∈ ss, 0 ≤ n ∧ n < 9) : headOf (mkS (ss.map ch)) = mkS ((headI ss).map ch) := by
  rw [headC]
  congr 1
  unfold headI
  induction ss with
  | nil => rfl
  | cons x r ih =>
    have hx := h x (.head _)
    have ih := ih fun n hn => h n (.tail _ hn)
    rw [List.map_cons, List.takeWhile_cons, List.takeWhile_cons]
    have e : (ch x != 47) = (x != 7) := by
      obtain ⟨k, rfl⟩ := nine hx
      exact slash_fin k
    rw [e]
    split
    · rw [List.map_cons, ih]
    · rfl
theorem head_sub {ss : List Int} (h : ∀ n ∈ ss, 0 ≤ n ∧ n < 9) : ∀ n ∈ headI ss, 0 ≤ n ∧ n < 9 := fun n hn => h n ((List.takeWhile_sublist _).subset hn)
theorem lower_CH {c : Nat} (h : c ∈ CH) : Unicode.lowerOf c = [c] ∧ (c == 0x3A3) = false := by
  have : ∀ c ∈ CH, Unicode.lowerOf c = [c] ∧ (c == 0x3A3) = false := by decide +kernel
  exact this c h
theorem flat_one : ∀ (l : List Nat), ((l.map fun c => #[c]).toArray).flatten = l.toArray := by
  intro l
  apply Array.ext'
  rw [Array.toList_flatten]
  simp
  induction l with
  | nil => rfl
  | cons a r ih => rw [List.map_cons, List.flatten_cons, ih]; rfl
theorem lower_plain {l : List Nat} (h : ∀ c ∈ l, c ∈ CH) : Txt.lower (mkS l) = mkS l := by
  show Str.mk (placed (mkS l) fun i _ => Unicode.lowerAt (mkS l).cps i) = _
  unfold placed
  show Str.mk _ = Str.mk _
  congr 1
  rw [← flat_one l]
  congr 1
  apply Array.ext_getElem?
  intro i
  show (Array.mapIdx _ l.toArray)[i]? = _
  rw [Array.getElem?_mapIdx]
  show Option.map _ (l.toArray[i]?) = _
  rw [List.getElem?_toArray, List.getElem?_toArray, List.getElem?_map]
  cases e : l[i]? with
  | none => rfl
  | some c =>
    have hc : c ∈ CH := h c (List.mem_of_getElem? e)
    obtain ⟨e1, e2⟩ := lower_CH hc
    show some (List.toArray (Unicode.lowerAt l.toArray i)) = some #[c]
    congr 2
    unfold Unicode.lowerAt
    rw [List.getElem?_toArray, e]
    dsimp only
    rw [e2, Bool.false_and, if_neg Bool.false_ne_true, e1]
theorem ch_CH {n : Int} (h : 0 ≤ n ∧ n < 9) : ch n ∈ CH := by
  obtain ⟨k, rfl⟩ := nine h
  exact ch_mem_fin k
theorem lower_row {ss : List Int} (h : ∀ n ∈ ss, 0 ≤ n ∧ n < 9) : Txt.lower (mkS (ss.map ch)) = mkS (ss.map ch) := lower_plain fun c hc => by
  obtain ⟨n, hn, rfl⟩ := List.mem_map.mp hc
  exact ch_CH (h n hn)
theorem hasP_iff {ks : List Int} : ∀ (l : List Int), hasP ks l = true ↔ ∃ u a b v, l = u ++ a :: b :: v ∧ a ∈ ks ∧ b = a + 1
  | [] => by simp [hasP]
  | [c] => by
    simp only [hasP, Bool.false_eq_true, false_iff]
    rintro ⟨u, a, b, v, e, _⟩
    have := congrArg List.length e
    simp at this
    omega
  | c :: d :: l => by
    have ih := hasP_iff (ks := ks) (d :: l)
    simp only [hasP, Bool.or_eq_true, Bool.and_eq_true, List.contains_iff_mem, beq_iff_eq]
    rw [ih]
    constructor
    · rintro (⟨h1, h2⟩ | ⟨u, a, b, v, e, h⟩)
      · exact ⟨[], c, d, l, rfl, h1, h2⟩
      · exact ⟨c :: u, a, b, v, by rw [e]; rfl, h⟩
    · rintro ⟨u, a, b, v, e, h1, h2⟩
      cases u with
      | nil =>
        simp only [List.nil_append, List.cons.injEq] at e
        obtain ⟨rfl, rfl, rfl⟩ := e
        exact .inl ⟨h1, h2⟩
      | cons x u =>
        simp only [List.cons_append, List.cons.injEq] at e
        exact .inr ⟨u, a, b, v, e.2, h1, h2⟩
theorem found_two {l : List Nat} {x y : Nat} : (!(Builtin.Str.occurrences (mkS l) (mkS [x, y]) 0 (mkS l).length 1).isEmpty) = true ↔ ∃ u v, l = u ++ x :: y :: v := by
  rw [StrLaws.found_iff]
  constructor
  · rintro ⟨i, h1, h2⟩
    rw [StrLaws.subAt_eq, beq_iff_eq] at h2
    have h3 : (l.drop i).take 2 = [x, y] := h2
    have e := List.take_append_drop 2 (l.drop i)
    rw [h3] at e
    exact ⟨l.take i, (l.drop i).drop 2, by rw [show x :: y :: (l.drop i).drop 2 = [x, y] ++ (l.drop i).drop 2 from rfl, e, List.take_append_drop]⟩
  · rintro ⟨u, v, rfl⟩
    refine ⟨u.length, ?_, ?_⟩
    · show u.length + 2 ≤ (List.toArray _).size
      simp
    · rw [StrLaws.subAt_eq, beq_iff_eq]
      show ((u ++ x :: y :: v).drop u.length).take 2 = [x, y]
      simp
theorem pairS_ch {k : Int} (h : k = 0 ∨ k = 2 ∨ k = 4) : pairS (opn k) = mkS [ch k, ch (k + 1)] := by
  rcases h with rfl | rfl | rfl <;> decide +kernel
theorem star_ne {k : Int} (h : k = 0 ∨ k = 2 ∨ k = 4) : (pairS (opn k) != Str.ofString "*") = true := by
  rcases h with rfl | rfl | rfl <;> decide +kernel
theorem hit_pair {ss : List Int} (h : ∀ n ∈ ss, 0 ≤ n ∧ n < 9) {k : Int} (hk : k = 0 ∨ k = 2 ∨ k = 4) : hitB (mkS (ss.map ch)) (pairS (opn k)) = true ↔ ∃ u v, ss = u ++ k :: (k + 1) :: v := by
  unfold hitB
  rw [star_ne hk, Bool.true_and, pairS_ch hk, lower_row h]
  have hk9 : (0 ≤ k ∧ k < 9) ∧ (0 ≤ k + 1 ∧ k + 1 < 9) := by omega
  have e : Txt.lower (mkS [ch k, ch (k + 1)]) = mkS [ch k, ch (k + 1)] := lower_row (ss := [k, k + 1]) (by
    intro n hn
    simp only [List.mem_cons, List.not_mem_nil, or_false] at hn
    rcases hn with rfl | rfl
    · exact hk9.1
    · exact hk9.2)
  rw [e, found_two]
  constructor
  · rintro ⟨u, v, e⟩
    rw [List.map_eq_append_iff] at e
    obtain ⟨u', w, rfl, e1, e2⟩ := e
    rw [List.map_eq_cons_iff] at e2
    obtain ⟨a, w1, rfl, e3, e4⟩ := e2
    rw [List.map_eq_cons_iff] at e4
    obtain ⟨b, w2, rfl, e5, e6⟩ := e4
    have ha := ch_inj (h a (by simp)) hk9.1 e3
    have hb := ch_inj (h b (by simp)) hk9.2 e5
    exact ⟨u', w2, by rw [ha, hb]⟩
  · rintro ⟨u, v, rfl⟩
    exact ⟨u.map ch, v.map ch, by simp⟩
theorem applies_barred {ss kn : List Int} (h : ∀ n ∈ ss, 0 ≤ n ∧ n < 9) (hk : ∀ k ∈ kn, k = 0 ∨ k = 2 ∨ k = 4) : appliesF (ags kn) (mkS (ss.map ch)) = hasP kn (headI ss) := by
  unfold appliesF ags
  rw [head_row h, Bool.eq_iff_iff, hasP_iff]
  rw [List.any_cons, show hitB (mkS ((headI ss).map ch)) (Str.ofString "*") = false by unfold hitB; rw [bne_self_eq_false, Bool.false_and], Bool.false_or, List.map_map, List.any_map, List.any_eq_true]
  constructor
  · rintro ⟨k, hkk, hh⟩
    obtain ⟨u, v, e⟩ := (hit_pair (head_sub h) (hk k hkk)).mp hh
    exact ⟨u, k, k + 1, v, e, hkk, rfl⟩
  · rintro ⟨u, a, b, v, e, ha, rfl⟩
    exact ⟨a, ha, (hit_pair (head_sub h) (hk a ha)).mpr ⟨u, v, e⟩⟩
theorem applies_freed {ss : List Int} (h : ∀ n ∈ ss, 0 ≤ n ∧ n < 9) : appliesF [Str.ofString "!"] (mkS (ss.map ch)) = (headI ss).contains 6 := by
  unfold appliesF
  rw [head_row h, List.any_cons, List.any_nil, Bool.or_false]
  unfold hitB
  rw [show (Str.ofString "!" != Str.ofString "*") = true by decide +kernel, Bool.true_and, lower_row (head_sub h)]
  have e : Txt.lower (Str.ofString "!") = ⟨#[33]⟩ := by
    rw [sg_l6]
    exact lower_plain (l := [33]) (by decide)
  rw [e, StrLaws.found_one, mkS_list, Bool.eq_iff_iff, decide_eq_true_eq, List.contains_iff_mem, List.mem_map]
  constructor
  · rintro ⟨n, hn, hc⟩
    have := ch_inj (b := 6) (head_sub h n hn) (by decide) hc
    exact this ▸ hn
  · intro h6
    exact ⟨6, h6, rfl⟩
theorem allow_one {ss kn : List Int} {al : Bool} (h : ∀ n ∈ ss, 0 ≤ n ∧ n < 9) (hk : ∀ k ∈ kn, k = 0 ∨ k = 2 ∨ k = 4) : allowF ([(ags kn, false)] ++ freeR al) (mkS (ss.map ch)) = okS kn al ss := by
  unfold allowF okS freeR
  cases al
  · simp [applies_barred h hk]
  · simp only [if_true, List.cons_append, List.nil_append, List.any_cons, List.any_nil, applies_barred h hk, applies_freed h]
    cases hasP kn (headI ss) <;> cases (headI ss).contains 6 <;> rfl
theorem allow_two {ss kn : List Int} {al : Bool} (h : ∀ n ∈ ss, 0 ≤ n ∧ n < 9) (hk : ∀ k ∈ kn, k = 0 ∨ k = 2 ∨ k = 4) : allowF (freeR al ++ [(ags kn, false)]) (mkS (ss.map ch)) = okS kn al ss := by
  unfold allowF okS freeR
  cases al
  · simp [applies_barred h hk]
  · simp only [if_true, List.cons_append, List.nil_append, List.any_cons, List.any_nil, applies_barred h hk, applies_freed h]
    cases hasP kn (headI ss) <;> cases (headI ss).contains 6 <;> rfl
theorem sgs_bound {rs : List Int} (h : ∀ n ∈ rs, 0 ≤ n ∧ n < 9) {ps : List Nat} (hp : ∀ p ∈ ps, p < rs.length) : ∀ n ∈ sgs rs ps, 0 ≤ n ∧ n < 9 := by
  intro n hn
  obtain ⟨p, hpp, rfl⟩ := List.mem_map.mp hn
  refine h _ ?_
  rw [List.getD_eq_getElem?_getD, List.getElem?_eq_getElem (hp p hpp)]
  exact List.getElem_mem _
theorem ok_one {rs kn : List Int} {al : Bool} (h : ∀ n ∈ rs, 0 ≤ n ∧ n < 9) (hk : ∀ k ∈ kn, k = 0 ∨ k = 2 ∨ k = 4) {ps : List Nat} (hp : ∀ p ∈ ps, p < rs.length) :
    allowF ([(ags kn, false)] ++ freeR al) (textOf (mkS (rs.map ch)) ps) = okP rs kn al ps := by
  rw [textOf_row hp, allow_one (sgs_bound h hp) hk]; rfl
theorem ok_two {rs kn : List Int} {al : Bool} (h : ∀ n ∈ rs, 0 ≤ n ∧ n < 9) (hk : ∀ k ∈ kn, k = 0 ∨ k = 2 ∨ k = 4) {ps : List Nat} (hp : ∀ p ∈ ps, p < rs.length) :
    allowF (freeR al ++ [(ags kn, false)]) (textOf (mkS (rs.map ch)) ps) = okP rs kn al ps := by
  rw [textOf_row hp, allow_two (sgs_bound h hp) hk]; rfl
-- PFront
theorem fronts_tail {ok : List Nat → Bool} {left : List Nat} {P : List (Nat × Nat)} : ∀ (d k : Nat), left.length + 1 ≤ k + d → (∀ size, k ≤ size → size ≤ left.length → ok (left.take size) = true) → ∃ fuel, frontsF ok fuel left k P = some P
  | 0, k, hd, h => ⟨1, by unfold frontsF; rw [if_neg (by omega)]⟩
  | d + 1, k, hd, h => by
    by_cases hk : k ≤ left.length
    · obtain ⟨f, hf⟩ := fronts_tail (ok := ok) (left := left) (P := P) d (k + 1) (by omega) fun size h1 h2 => h size (by omega) h2
      exact ⟨f + 1, by unfold frontsF; rw [if_pos hk, if_pos (h k (Nat.le_refl _) hk)]; exact hf⟩
    · exact ⟨1, by unfold frontsF; rw [if_neg hk]⟩
theorem sgs_app {rs : List Int} {a b : List Nat} : sgs rs (a ++ b) = sgs rs a ++ sgs rs b := List.map_append
theorem fronts_main {rs kn : List Int} {al : Bool} {ok : List Nat → Bool} {stop : Nat} (hok : ∀ ps, (∀ p ∈ ps, p < rs.length) → ok ps = okP rs kn al ps) (hs : stop ≤ rs.length)
    (h1 : ∀ q, q < stop → rs.getD q 0 ≠ 7 ∧ ¬ (rs.getD q 0 = 6 ∧ al = true)) (h2 : stop < rs.length → rs.getD stop 0 = 7 ∨ (rs.getD stop 0 = 6 ∧ al = true)) :
    ∀ (d p : Nat), p + d = stop → ∃ fuel, frontsF ok fuel ((closedRun rs kn 0 p).1 ++ List.range' p (rs.length - p)) ((closedRun rs kn 0 p).1.length + 1) (closedRun rs kn 0 p).2 = some (closedRun rs kn 0 stop).2 := by
  intro d
  induction d with
  | zero =>
    intro p hp
    have hp : p = stop := by omega
    subst hp
    have hm := run_mem (rs := rs) (ks := kn) (b := 0) p
    have hg := run_good (rs := rs) (ks := kn) (b := 0) p
    generalize closedRun rs kn 0 p = st at hm hg
    obtain ⟨S, P⟩ := st
    dsimp only at hm hg ⊢
    by_cases hn : p < rs.length
    · refine fronts_tail _ _ (Nat.le_add_left _ _) fun size a1 a2 => ?_
      obtain ⟨e, rfl⟩ : ∃ e, size = S.length + (e + 1) := ⟨size - S.length - 1, by omega⟩
      have hr : List.range' p (rs.length - p) = p :: List.range' (p + 1) (rs.length - p - 1) := by
        rw [show rs.length - p = (rs.length - p - 1) + 1 by omega, List.range'_succ]; rfl
      rw [List.take_append, hr, List.take_of_length_le (by omega), show S.length + (e + 1) - S.length = e + 1 by omega, List.take_succ_cons]
      generalize hZ : List.take e (List.range' (p + 1) (rs.length - p - 1)) = Z
      have hz : ∀ q ∈ Z, q < rs.length := fun q hq => by
        rw [← hZ] at hq
        have := List.mem_of_mem_take hq
        rw [List.mem_range'_1] at this
        omega
      rw [hok _ (by
        intro q hq
        rcases List.mem_append.mp hq with h | h
        · have := hm q h; omega
        · rcases List.mem_cons.mp h with rfl | h
          · exact hn
          · exact hz q h)]
      have h7 : ∀ x ∈ sgs rs S, x ≠ 7 := fun x hx => by
        obtain ⟨q, hq, rfl⟩ := List.mem_map.mp hx
        exact (h1 q (by have := hm q hq; omega)).1
      unfold okP
      rw [sgs_app]
      show okS kn al (sgs rs S ++ rs.getD p 0 :: sgs rs Z) = true
      unfold okS
      rcases h2 hn with h | ⟨h, ha⟩
      · rw [h, headI_stop h7, hg]; rfl
      · rw [h, ha, headI_pre h7]
        have : (sgs rs S ++ headI (6 :: sgs rs Z)).contains 6 = true := by
          rw [List.contains_iff_mem]
          exact List.mem_append_right _ (by unfold headI; rw [List.takeWhile_cons, if_pos (by decide)]; exact .head _)
        rw [this]; simp
    · have : rs.length - p = 0 := by omega
      rw [this]
      exact ⟨1, by unfold frontsF; rw [if_neg (by simp)]⟩
  | succ d ih =>
    intro p hp
    obtain ⟨fuel, hf⟩ := ih (p + 1) (by omega)
    refine ⟨fuel + 1, ?_⟩
    rw [closedRun_succ, Nat.zero_add] at hf
    have hm := run_mem (rs := rs) (ks := kn) (b := 0) p
    have hg := run_good (rs := rs) (ks := kn) (b := 0) p
    generalize closedRun rs kn 0 p = st at hm hg hf ⊢
    obtain ⟨S, P⟩ := st
    dsimp only at hm hg ⊢
    have hr : List.range' p (rs.length - p) = p :: List.range' (p + 1) (rs.length - (p + 1)) := by
      rw [show rs.length - p = (rs.length - (p + 1)) + 1 by omega, List.range'_succ]
    rw [hr]
    generalize List.range' (p + 1) (rs.length - (p + 1)) = R at hf
    have ht : (S ++ p :: R).take (S.length + 1) = S ++ [p] := by
      rw [List.take_append, List.take_of_length_le (by omega), show S.length + 1 - S.length = 1 by omega]; rfl
    have h7 : ∀ x ∈ sgs rs (S ++ [p]), x ≠ 7 ∧ ¬ (x = 6 ∧ al = true) := fun x hx => by
      obtain ⟨q, hq, rfl⟩ := List.mem_map.mp hx
      refine h1 q ?_
      rcases List.mem_append.mp hq with h | h
      · have := hm q h; omega
      · rw [List.mem_singleton.mp h]; omega
    have hok1 : ok (S ++ [p]) = !(hasP kn (sgs rs (S ++ [p]))) := by
      rw [hok _ (by
        intro q hq
        rcases List.mem_append.mp hq with h | h
        · have := hm q h; omega
        · rw [List.mem_singleton.mp h]; omega)]
      unfold okP okS
      rw [headI_free fun x hx => (h7 x hx).1]
      have : (al && (sgs rs (S ++ [p])).contains 6) = false := by
        cases ha : al with
        | false => rfl
        | true =>
          rw [Bool.true_and]
          have hn : ¬ (6 : Int) ∈ sgs rs (S ++ [p]) := fun h6 => (h7 6 h6).2 ⟨rfl, ha⟩
          simpa using hn
      rw [this, Bool.or_false]
    unfold frontsF
    rw [if_pos (by simp), ht, hok1]
    rcases List.eq_nil_or_concat S with rfl | ⟨S', q, rfl⟩
    · rw [if_pos (by simp [sgs, hasP])]
      exact hf
    · rw [List.concat_eq_append] at *
      rw [closedStep_concat] at hf
      have hh : hasP kn (sgs rs (S' ++ [q] ++ [p])) = decide (rs.getD q 0 ∈ kn ∧ rs.getD p 0 = rs.getD q 0 + 1) := by
        rw [List.append_assoc, sgs_app]
        show hasP kn (sgs rs S' ++ [rs.getD q 0, rs.getD p 0]) = _
        rw [hasP_snoc]
        rw [sgs_app] at hg
        have hg' : hasP kn (sgs rs S' ++ [rs.getD q 0]) = false := hg
        rw [hg', Bool.false_or, Bool.eq_iff_iff]
        simp
      rw [hh]
      by_cases hp2 : rs.getD q 0 ∈ kn ∧ rs.getD p 0 = rs.getD q 0 + 1
      · rw [if_pos hp2] at hf
        rw [decide_eq_true hp2, if_neg (by simp), if_pos (by simp)]
        have e1 : (S' ++ [q] ++ p :: R).take ((S' ++ [q]).length + 1 - 2) = S' := by
          rw [List.append_assoc, show (S' ++ [q]).length + 1 - 2 = S'.length by simp]; simp
        have e2 : (S' ++ [q] ++ p :: R).drop ((S' ++ [q]).length + 1) = R := by
          rw [List.drop_append, List.drop_of_length_le (by omega), show (S' ++ [q]).length + 1 - (S' ++ [q]).length = 1 by omega]; rfl
        have e3 : (S' ++ [q] ++ p :: R).getD ((S' ++ [q]).length + 1 - 2) 0 = q := by
          rw [show (S' ++ [q]).length + 1 - 2 = S'.length by simp]; simp
        have e4 : (S' ++ [q] ++ p :: R).getD ((S' ++ [q]).length + 1 - 1) 0 = p := by
          rw [show (S' ++ [q]).length + 1 - 1 = (S' ++ [q]).length by simp, List.getD_eq_getElem?_getD, List.getElem?_append_right (Nat.le_refl _)]; simp
        rw [e1, e2, e3, e4, show (S' ++ [q]).length + 1 - 1 = S'.length + 1 by simp]
        exact hf
      · rw [if_neg hp2] at hf
        rw [decide_eq_false hp2, if_pos (by simp)]
        rw [show S' ++ [q] ++ [p] ++ R = S' ++ [q] ++ p :: R by simp, show (S' ++ [q] ++ [p]).length + 1 = (S' ++ [q]).length + 1 + 1 by simp] at hf
        exact hf
theorem stop_facts (rs : List Int) (al : Bool) : stopF rs al ≤ rs.length ∧ (∀ q, q < stopF rs al → rs.getD q 0 ≠ 7 ∧ ¬ (rs.getD q 0 = 6 ∧ al = true)) ∧ (stopF rs al < rs.length → rs.getD (stopF rs al) 0 = 7 ∨ (rs.getD (stopF rs al) 0 = 6 ∧ al = true)) := by
  unfold stopF
  cases e : (List.range rs.length).find? fun p => rs.getD p 0 == 7 || (rs.getD p 0 == 6 && al) with
  | none =>
    rw [List.find?_eq_none] at e
    refine ⟨Nat.le_refl _, fun q hq => ?_, fun h => absurd h (Nat.lt_irrefl _)⟩
    have := e q (List.mem_range.mpr hq)
    simp only [Bool.or_eq_true, Bool.and_eq_true, beq_iff_eq, not_or] at this
    exact this
  | some p =>
    rw [List.find?_range_eq_some] at e
    obtain ⟨h1, h2, h3⟩ := e
    rw [List.mem_range] at h2
    refine ⟨Nat.le_of_lt h2, fun q hq => ?_, fun _ => ?_⟩
    · have := h3 q hq
      simp only [Bool.not_eq_true', Bool.or_eq_false_iff, Bool.and_eq_false_iff, beq_eq_false_iff_ne] at this
      refine ⟨this.1, fun h => ?_⟩
      rcases this.2 with h' | h'
      · exact h' h.1
      · rw [h.2] at h'; cases h'
    · simp only [Bool.or_eq_true, Bool.and_eq_true, beq_iff_eq] at h1
      exact h1
theorem okP_nil {rs kn : List Int} {al : Bool} : okP rs kn al [] = true := rfl
theorem plain_fronts (figs kn : List Int) (al : Bool) (hfb : ∀ n ∈ figs, 0 ≤ n ∧ n < 16) (hkm : ∀ n ∈ kn, n = 0 ∨ n = 2 ∨ n = 4) :
    ∃ fuel, frontsF (fun ps => allowF ([(ags kn, false)] ++ freeR al) (textOf (textF figs) ps)) fuel (List.range (textF figs).length) 0 [] = some (closedF (rowF figs) kn 0 (stopF (rowF figs) al)) := by
  have hb := row_bound hfb
  obtain ⟨s1, s2, s3⟩ := stop_facts (rowF figs) al
  rw [textF_len' hfb, text_row hfb]
  have hok : ∀ ps, (∀ p ∈ ps, p < (rowF figs).length) → (fun ps => allowF ([(ags kn, false)] ++ freeR al) (textOf (mkS ((rowF figs).map ch)) ps)) ps = okP (rowF figs) kn al ps := fun ps hp => ok_one hb hkm hp
  obtain ⟨f, hf⟩ := fronts_main hok s1 s2 s3 (stopF (rowF figs) al) 0 (by omega)
  refine ⟨f + 1, ?_⟩
  rw [frontsF, if_pos (Nat.zero_le _), if_pos (by rw [List.take_zero]; exact (hok [] (by simp)).trans okP_nil)]
  rw [List.range_eq_range']
  exact hf
-- PEnd
noncomputable def estep (rs kn : List Int) (al : Bool) (p : Nat) (st : List Nat × List (Nat × Nat)) : List Nat × List (Nat × Nat) :=
  if okP rs kn al (p :: st.1) = true then (p :: st.1, st.2) else (st.1.tail, st.2 ++ [(p, st.1.headD 0)])
theorem okP_one {rs kn : List Int} {al : Bool} (p : Nat) : okP rs kn al [p] = true := by
  unfold okP okS sgs headI
  rw [List.map_cons, List.map_nil, List.takeWhile_cons]
  split <;> simp [hasP]
theorem ends_run {rs kn : List Int} {al : Bool} {ok : List Nat → Bool} (hok : ∀ ps, (∀ p ∈ ps, p < rs.length) → ok ps = okP rs kn al ps) : ∀ (p : Nat) (T : List Nat) (P : List (Nat × Nat)), p ≤ rs.length → (∀ q ∈ T, q < rs.length) →
    endsF ok p (List.range p ++ T) P = some ((List.range p).foldr (estep rs kn al) (T, P)).2
  | 0, T, P, _, _ => rfl
  | p + 1, T, P, hp, hT => by
    have e1 : List.range (p + 1) ++ T = List.range p ++ p :: T := by rw [List.range_succ, List.append_assoc]; rfl
    have e2 : (List.range p ++ p :: T).drop p = p :: T := by
      rw [List.drop_append, List.drop_of_length_le (by simp), List.length_range, Nat.sub_self]; rfl
    have hT' : ∀ q ∈ p :: T, q < rs.length := fun q hq => by
      rcases List.mem_cons.mp hq with rfl | hq
      · omega
      · exact hT q hq
    rw [List.range_succ, List.foldr_append, List.foldr_cons, List.foldr_nil, ← List.range_succ, e1, endsF, e2, hok _ hT']
    by_cases h : okP rs kn al (p :: T) = true
    · rw [if_pos h, ends_run hok p (p :: T) P (by omega) hT']
      unfold estep
      rw [if_pos h]
    · rw [if_neg h]
      cases T with
      | nil => exact absurd (okP_one p) h
      | cons q r =>
        rw [if_pos (by simp)]
        have e3 : (List.range p ++ p :: q :: r).take p = List.range p := by
          rw [List.take_append, List.take_of_length_le (by simp), List.length_range, Nat.sub_self]; simp
        have e4 : (List.range p ++ p :: q :: r).drop (p + 2) = r := by
          rw [List.drop_append, List.drop_of_length_le (by simp), List.length_range, show p + 2 - p = 2 by omega]; rfl
        have e5 : (List.range p ++ p :: q :: r).getD p 0 = p := by
          rw [List.getD_eq_getElem?_getD, List.getElem?_append_right (by simp), List.length_range, Nat.sub_self]; rfl
        have e6 : (List.range p ++ p :: q :: r).getD (p + 1) 0 = q := by
          rw [List.getD_eq_getElem?_getD, List.getElem?_append_right (by simp), List.length_range, show p + 1 - p = 1 by omega]; rfl
        rw [e3, e4, e5, e6, ends_run hok p r _ (by omega) fun x hx => hT x (.tail _ hx)]
        unfold estep
        rw [if_neg h]
        rfl
theorem hasP_tail {ks : List Int} {a : Int} {l : List Int} (h : hasP ks (a :: l) = false) : hasP ks l = false := by
  cases l with
  | nil => rfl
  | cons b r =>
    simp only [hasP, Bool.or_eq_false_iff] at h
    exact h.2
theorem headI_cons {a : Int} {l : List Int} (h : a ≠ 7) : headI (a :: l) = a :: headI l := headI_pre (l := [a]) (r := l) fun x hx => by rw [List.mem_singleton.mp hx]; exact h
noncomputable def freeAt (rs : List Int) (al : Bool) (q : Nat) : Prop := rs.getD q 0 ≠ 7 ∧ ¬ (rs.getD q 0 = 6 ∧ al = true)
theorem seg_run {rs kn : List Int} {al : Bool} {T : List Nat} {P : List (Nat × Nat)} (hT : headI (sgs rs T) = []) : ∀ (xs : List Nat), (∀ q ∈ xs, freeAt rs al q) →
    xs.foldr (estep rs kn al) (T, P) = ((rrun rs kn xs).1 ++ T, P ++ (rrun rs kn xs).2) ∧ (∀ q ∈ (rrun rs kn xs).1, q ∈ xs) ∧ hasP kn (sgs rs (rrun rs kn xs).1) = false
  | [], _ => by simp [rrun, sgs, hasP]
  | x :: xs, h => by
    obtain ⟨h1, h2, h3⟩ := seg_run (kn := kn) (P := P) hT xs fun q hq => h q (.tail _ hq)
    have hx := h x (.head _)
    have er : rrun rs kn (x :: xs) = rstep0 rs kn x (rrun rs kn xs) := rfl
    rw [List.foldr_cons, h1, er]
    have hf : ∀ q ∈ (rrun rs kn xs).1, freeAt rs al q := fun q hq => h q (.tail _ (h2 q hq))
    revert h2 h3 hf
    generalize rrun rs kn xs = st
    obtain ⟨U, R⟩ := st
    intro h2 h3 hf
    dsimp only at h2 h3 hf ⊢
    have hall : ∀ z ∈ sgs rs (x :: U), z ≠ 7 ∧ ¬ (z = 6 ∧ al = true) := fun z hz => by
      obtain ⟨q, hq, rfl⟩ := List.mem_map.mp hz
      rcases List.mem_cons.mp hq with rfl | hq
      · exact hx
      · exact hf q hq
    have hok : okP rs kn al (x :: (U ++ T)) = !(hasP kn (sgs rs (x :: U))) := by
      unfold okP okS
      rw [show x :: (U ++ T) = (x :: U) ++ T from rfl, sgs_app, headI_pre fun z hz => (hall z hz).1, hT, List.append_nil]
      have : (al && (sgs rs (x :: U)).contains 6) = false := by
        cases ha : al with
        | false => rfl
        | true =>
          rw [Bool.true_and]
          have hn : ¬ (6 : Int) ∈ sgs rs (x :: U) := fun h6 => (hall 6 h6).2 ⟨rfl, ha⟩
          simpa using hn
      rw [this, Bool.or_false]
    unfold estep
    dsimp only
    rw [hok]
    cases U with
    | nil =>
      have e0 : hasP kn (sgs rs [x]) = false := rfl
      rw [e0, if_pos (by rfl)]
      refine ⟨rfl, fun q hq => ?_, rfl⟩
      rw [List.mem_singleton.mp hq]; exact .head _
    | cons q t =>
      have e1 : hasP kn (sgs rs (x :: q :: t)) = decide (isPr rs kn x q) := by
        show ((kn.contains (rs.getD x 0) && rs.getD q 0 == rs.getD x 0 + 1) || hasP kn (sgs rs (q :: t))) = _
        rw [h3, Bool.or_false, Bool.eq_iff_iff]
        unfold isPr
        simp
      unfold rstep0
      dsimp only
      rw [e1]
      by_cases hp : isPr rs kn x q
      · rw [if_pos hp, decide_eq_true hp, if_neg (by simp)]
        refine ⟨by simp, fun z hz => .tail _ (h2 z (.tail _ hz)), hasP_tail h3⟩
      · rw [if_neg hp, decide_eq_false hp, if_pos (by rfl)]
        refine ⟨rfl, fun z hz => ?_, by rw [e1, decide_eq_false hp]⟩
        rcases List.mem_cons.mp hz with rfl | hz
        · exact .head _
        · exact .tail _ (h2 z hz)
theorem okS_mark {kn : List Int} {u v : List Int} (hu : ∀ x ∈ u, x ≠ 7) : okS kn true (u ++ 6 :: v) = true := by
  unfold okS
  rw [headI_pre hu, headI_cons (by decide)]
  have : (u ++ 6 :: headI v).contains 6 = true := by rw [List.contains_iff_mem]; simp
  rw [this]; simp
theorem frozen_run {rs kn : List Int} {al : Bool} {T : List Nat} {P : List (Nat × Nat)} {m : Nat} (hm : rs.getD m 0 = 6) (ha : al = true) : ∀ (ys : List Nat), (∀ q ∈ ys, rs.getD q 0 ≠ 7) →
    (ys ++ [m]).foldr (estep rs kn al) (T, P) = (ys ++ [m] ++ T, P)
  | [], _ => by
    show estep rs kn al m (T, P) = _
    unfold estep
    rw [if_pos]
    · rfl
    · subst ha
      show okS kn true (rs.getD m 0 :: sgs rs T) = true
      rw [hm]; exact okS_mark (u := []) (fun _ h => by cases h)
  | y :: ys, h => by
    rw [List.cons_append, List.foldr_cons, frozen_run hm ha ys fun q hq => h q (.tail _ hq)]
    unfold estep
    rw [if_pos]
    · rfl
    · subst ha
      have e : sgs rs (y :: (ys ++ [m] ++ T)) = sgs rs (y :: ys) ++ 6 :: sgs rs T := by simp [sgs]; simpa using hm
      show okS kn true (sgs rs (y :: (ys ++ [m] ++ T))) = true
      rw [e]
      exact okS_mark fun x hx => by
        obtain ⟨q, hq, rfl⟩ := List.mem_map.mp hx
        exact h q hq
theorem range'_cut {b m c : Nat} (h1 : b ≤ m) (h2 : m ≤ c) : List.range' b (c - b) = List.range' b (m - b) ++ List.range' m (c - m) := by
  rw [show c - b = (m - b) + (c - m) from (Nat.sub_add_sub_cancel h2 h1).symm.trans (Nat.add_comm _ _), ← List.range'_append, show b + 1 * (m - b) = m by rw [Nat.one_mul]; exact Nat.add_sub_cancel' h1]
theorem seg_all {rs kn : List Int} {al : Bool} {T : List Nat} {P : List (Nat × Nat)} {b m c : Nat} (hT : headI (sgs rs T) = []) (h1 : b ≤ m) (h2 : m ≤ c) (h7 : ∀ q, b ≤ q → q < c → rs.getD q 0 ≠ 7)
    (hm : m = b ∨ (b < m ∧ rs.getD (m - 1) 0 = 6 ∧ al = true)) (h6 : ∀ q, m ≤ q → q < c → ¬ (rs.getD q 0 = 6 ∧ al = true)) :
    ∃ T', (List.range' b (c - b)).foldr (estep rs kn al) (T, P) = (T', P ++ (rrun rs kn (List.range' m (c - m))).2) := by
  rw [range'_cut h1 h2, List.foldr_append]
  obtain ⟨e, _⟩ := seg_run (kn := kn) (P := P) (al := al) hT (List.range' m (c - m)) fun q hq => by
    rw [List.mem_range'_1] at hq
    exact ⟨h7 q (by omega) (by omega), h6 q (by omega) (by omega)⟩
  rw [e]
  rcases hm with rfl | ⟨hb, hm6, ha⟩
  · rw [Nat.sub_self]; exact ⟨_, rfl⟩
  · have e2 : List.range' b (m - b) = List.range' b (m - 1 - b) ++ [m - 1] := by
      rw [range'_cut (b := b) (m := m - 1) (c := m) (by omega) (by omega), show m - (m - 1) = 1 by omega]; rfl
    rw [e2, frozen_run hm6 ha _ fun q hq => by
      rw [List.mem_range'_1] at hq
      exact h7 q (by omega) (by omega)]
    exact ⟨_, rfl⟩
noncomputable def marksF (rs : List Int) (al : Bool) : List Int := List.filter (markP rs al) (List.map (fun i : Nat => (0 : Int) + (i : Int)) (List.range rs.length))
theorem marks_iff {rs : List Int} {al : Bool} {x : Int} : x ∈ marksF rs al ↔ ∃ q : Nat, x = (q : Int) ∧ q < rs.length ∧ rs.getD q 0 = 6 ∧ al = true := by
  unfold marksF
  rw [List.mem_filter, List.mem_map]
  constructor
  · rintro ⟨⟨q, hq, rfl⟩, h⟩
    rw [List.mem_range] at hq
    unfold markP at h
    simp only [Bool.and_eq_true, beq_iff_eq] at h
    exact ⟨q, by omega, hq, by rw [← h.1]; congr 1; omega, h.2⟩
  · rintro ⟨q, rfl, hq, h6, ha⟩
    refine ⟨⟨q, List.mem_range.mpr hq, by omega⟩, ?_⟩
    unfold markP
    simp only [Bool.and_eq_true, beq_iff_eq]
    exact ⟨by rw [← h6]; congr 1, ha⟩
theorem foldl_max_le : ∀ (l : List Int) (b : Int), b ≤ l.foldl max b ∧ (∀ x ∈ l, x ≤ l.foldl max b) ∧ (l.foldl max b = b ∨ l.foldl max b ∈ l)
  | [], b => ⟨Int.le_refl _, fun _ h => by simp at h, .inl rfl⟩
  | x :: r, b => by
    obtain ⟨h1, h2, h3⟩ := foldl_max_le r (max b x)
    rw [List.foldl_cons]
    refine ⟨by omega, fun y hy => ?_, ?_⟩
    · rcases List.mem_cons.mp hy with rfl | hy
      · omega
      · exact h2 y hy
    · rcases h3 with h3 | h3
      · rw [h3]
        by_cases hb : b ≤ x
        · right; rw [show max b x = x by omega]; exact .head _
        · left; omega
      · exact .inr (.tail _ h3)
theorem mF_facts {rs : List Int} {al : Bool} {b c : Nat} (hbc : b ≤ c) (hc : c ≤ rs.length) : ∃ m : Nat, mF (marksF rs al) b c = (m : Int) ∧ b ≤ m ∧ m ≤ c ∧ (m = b ∨ (b < m ∧ rs.getD (m - 1) 0 = 6 ∧ al = true)) ∧ ∀ q, m ≤ q → q < c → ¬ (rs.getD q 0 = 6 ∧ al = true) := by
  unfold mF
  obtain ⟨h1, h2, h3⟩ := foldl_max_le (((marksF rs al).filter fun p => decide ((b : Int) ≤ p) && decide (p < (c : Int))).map (· + 1)) b
  generalize (((marksF rs al).filter fun p => decide ((b : Int) ≤ p) && decide (p < (c : Int))).map (· + 1)).foldl max (b : Int) = M at h1 h2 h3
  have no : ∀ q : Nat, M ≤ (q : Int) → q < c → ¬ (rs.getD q 0 = 6 ∧ al = true) := by
    intro q hq hqc h6
    have := h2 ((q : Int) + 1) (by
      rw [List.mem_map]
      refine ⟨q, ?_, rfl⟩
      rw [List.mem_filter, marks_iff]
      exact ⟨⟨q, rfl, by omega, h6⟩, by simp only [Bool.and_eq_true, decide_eq_true_eq]; omega⟩)
    omega
  rcases h3 with h3 | h3
  · exact ⟨b, h3, Nat.le_refl _, hbc, .inl rfl, fun q hq => no q (by omega)⟩
  · rw [List.mem_map] at h3
    obtain ⟨x, hx, rfl⟩ := h3
    rw [List.mem_filter, marks_iff] at hx
    obtain ⟨⟨q, rfl, hq, h6⟩, hb⟩ := hx
    simp only [Bool.and_eq_true, decide_eq_true_eq] at hb
    exact ⟨q + 1, by omega, by omega, by omega, .inr ⟨by omega, h6⟩, fun q' hq' => no q' (by omega)⟩
noncomputable def dueL (rs kn marks : List Int) : Int → List Int → List (Nat × Nat)
  | _, [] => []
  | b, c :: r => closedF rs kn (mF marks b c).toNat c.toNat ++ dueL rs kn marks (c + 1) r
theorem due_split {rs kn marks : List Int} {cuts : List Int} : ∀ i, i ≤ cuts.length → dueF rs kn marks cuts i ++ dueL rs kn marks (begF cuts i) (cuts.drop i) = dueL rs kn marks 0 cuts
  | 0, _ => rfl
  | i + 1, h => by
    rw [← due_split i (by omega)]
    rw [dueF, List.append_assoc]
    congr 1
    have hd : cuts.drop i = cuts.getD i 0 :: cuts.drop (i + 1) := by
      rw [List.drop_eq_getElem_cons (show i < cuts.length by omega)]
      congr 1
      rw [List.getD_eq_getElem?_getD, List.getElem?_eq_getElem (show i < cuts.length by omega)]; rfl
    rw [hd]
    rfl
theorem due_all {rs kn marks cuts : List Int} : dueF rs kn marks cuts cuts.length = dueL rs kn marks 0 cuts := by
  have := due_split (rs := rs) (kn := kn) (marks := marks) (cuts := cuts) cuts.length (Nat.le_refl _)
  rw [List.drop_length] at this
  rw [← this]
  cases cuts.length <;> simp [dueL]
noncomputable def cutsL (rs : List Int) (b : Nat) : List Int := List.filter (cutP rs) ((List.range' b (rs.length - b)).map fun i : Nat => (i : Int)) ++ [(rs.length : Int)]
theorem filter_nil7 {rs : List Int} {b d : Nat} (h : ∀ q, b ≤ q → q < b + d → rs.getD q 0 ≠ 7) : List.filter (cutP rs) ((List.range' b d).map fun i : Nat => (i : Int)) = [] := by
  rw [List.filter_eq_nil_iff]
  intro x hx
  obtain ⟨q, hq, rfl⟩ := List.mem_map.mp hx
  rw [List.mem_range'_1] at hq
  unfold cutP
  simp only [beq_iff_eq]
  exact h q hq.1 hq.2
theorem first7 (rs : List Int) (b n : Nat) : (∀ q, b ≤ q → q < n → rs.getD q 0 ≠ 7) ∨ ∃ c, b ≤ c ∧ c < n ∧ rs.getD c 0 = 7 ∧ ∀ q, b ≤ q → q < c → rs.getD q 0 ≠ 7 := by
  induction n with
  | zero => exact .inl fun q _ h => by omega
  | succ n ih =>
    rcases ih with h | ⟨c, h1, h2, h3, h4⟩
    · by_cases hn : b ≤ n ∧ rs.getD n 0 = 7
      · exact .inr ⟨n, hn.1, by omega, hn.2, h⟩
      · refine .inl fun q hb hq => ?_
        by_cases e : q = n
        · rw [e]; exact fun h7 => hn ⟨e ▸ hb, h7⟩
        · exact h q hb (by omega)
    · exact .inr ⟨c, h1, by omega, h3, h4⟩
theorem ends_main {rs kn : List Int} {al : Bool} (hk : ∀ k ∈ kn, k + 1 ∉ kn) : ∀ (d b : Nat), rs.length - b ≤ d → b ≤ rs.length →
    ∃ T R, (List.range' b (rs.length - b)).foldr (estep rs kn al) ([], []) = (T, R) ∧ R.Perm (dueL rs kn (marksF rs al) b (cutsL rs b)) := by
  intro d
  induction d with
  | zero =>
    intro b hd hb
    have hb : b = rs.length := by omega
    subst hb
    obtain ⟨m, e, m1, m2, _⟩ := mF_facts (rs := rs) (al := al) (b := rs.length) (c := rs.length) (Nat.le_refl _) (Nat.le_refl _)
    refine ⟨[], [], by simp, ?_⟩
    unfold cutsL
    rw [Nat.sub_self]
    show List.Perm [] (dueL rs kn _ _ [(rs.length : Int)])
    rw [dueL, dueL, e, List.append_nil]
    have : m = rs.length := by omega
    subst this
    rw [Int.toNat_natCast]
    unfold closedF closedRun
    rw [Nat.sub_self]
    exact List.Perm.refl _
  | succ d ih =>
    intro b hd hb
    rcases first7 rs b rs.length with h7 | ⟨c, c1, c2, c3, c4⟩
    · obtain ⟨m, e, m1, m2, m3, m4⟩ := mF_facts (rs := rs) (al := al) (b := b) (c := rs.length) hb (Nat.le_refl _)
      obtain ⟨T', hT'⟩ := seg_all (kn := kn) (T := []) (P := []) rfl m1 m2 h7 m3 m4
      refine ⟨T', _, hT', ?_⟩
      unfold cutsL
      rw [filter_nil7 (by intro q h1 h2; exact h7 q h1 (by omega)), List.nil_append, List.nil_append, dueL, dueL, e, List.append_nil, Int.toNat_natCast, Int.toNat_natCast]
      exact (closed_perm hk _ _).symm
    · obtain ⟨T, R, hTR, hp⟩ := ih (c + 1) (by omega) (by omega)
      obtain ⟨m, e, m1, m2, m3, m4⟩ := mF_facts (rs := rs) (al := al) (b := b) (c := c) c1 (by omega)
      have hstep : estep rs kn al c (T, R) = (c :: T, R) := by
        unfold estep
        rw [if_pos]
        show okS kn al (rs.getD c 0 :: sgs rs T) = true
        rw [c3]
        rfl
      have hT : headI (sgs rs (c :: T)) = [] := by
        show headI (rs.getD c 0 :: sgs rs T) = []
        rw [c3]; rfl
      obtain ⟨T', hT'⟩ := seg_all (kn := kn) (P := R) hT m1 m2 c4 m3 m4
      refine ⟨T', R ++ (rrun rs kn (List.range' m (c - m))).2, ?_, ?_⟩
      · rw [range'_cut c1 (Nat.le_of_lt c2), List.foldr_append, show rs.length - c = (rs.length - (c + 1)) + 1 by omega, List.range'_succ, List.foldr_cons, hTR, hstep]
        exact hT'
      · have ec : cutsL rs b = (c : Int) :: cutsL rs (c + 1) := by
          unfold cutsL
          rw [range'_cut c1 (Nat.le_of_lt c2), List.map_append, List.filter_append, filter_nil7 (by intro q h1 h2; exact c4 q h1 (by omega)), List.nil_append, show rs.length - c = (rs.length - (c + 1)) + 1 by omega, List.range'_succ, List.map_cons, List.filter_cons, if_pos (by unfold cutP; rw [Int.toNat_natCast, c3]; rfl)]
          rfl
        rw [ec, dueL, e, Int.toNat_natCast, Int.toNat_natCast]
        refine List.Perm.trans List.perm_append_comm (List.Perm.append (closed_perm hk _ _).symm ?_)
        exact hp
theorem ends_desc {rs kn : List Int} {al : Bool} : ∀ (k b : Nat), ((List.range' b k).foldr (estep rs kn al) ([], [])).2.Pairwise (fun x y => y.1 < x.1) ∧ (∀ x ∈ ((List.range' b k).foldr (estep rs kn al) ([], [])).2, b ≤ x.1) ∧
    2 * ((List.range' b k).foldr (estep rs kn al) ([], [])).2.length + ((List.range' b k).foldr (estep rs kn al) ([], [])).1.length = k
  | 0, b => by simp
  | k + 1, b => by
    rw [List.range'_succ, List.foldr_cons]
    obtain ⟨h1, h2, h3⟩ := ends_desc (rs := rs) (kn := kn) (al := al) k (b + 1)
    generalize (List.range' (b + 1) k).foldr (estep rs kn al) ([], []) = st at h1 h2 h3
    obtain ⟨T, P⟩ := st
    dsimp only at h1 h2 h3
    unfold estep
    split
    · exact ⟨h1, fun x hx => by have := h2 x hx; omega, by simp only [List.length_cons]; omega⟩
    · rename_i hno
      have hT : T ≠ [] := by
        rintro rfl
        exact hno (okP_one b)
      obtain ⟨t, r, rfl⟩ := List.exists_cons_of_ne_nil hT
      refine ⟨?_, ?_, ?_⟩
      · dsimp only
        rw [List.pairwise_append]
        refine ⟨h1, List.pairwise_singleton _ _, fun x hx y hy => ?_⟩
        rw [List.mem_singleton.mp hy]
        have := h2 x hx
        show b < x.1
        omega
      · intro x hx
        rcases List.mem_append.mp hx with hx | hx
        · have := h2 x hx; omega
        · rw [List.mem_singleton.mp hx]; exact Nat.le_refl _
      · simp only [List.length_append, List.length_cons, List.length_nil, List.tail_cons] at *
        omega
noncomputable def cutsF (rs : List Int) : List Int := List.filter (cutP rs) (List.map (fun i : Nat => (0 : Int) + (i : Int)) (List.range rs.length)) ++ [(rs.length : Int)]
theorem cutsF_eq (rs : List Int) : cutsF rs = cutsL rs 0 := by
  unfold cutsF cutsL
  rw [List.range_eq_range', Nat.sub_zero]
  congr 2
  exact List.map_congr_left fun i _ => by omega
theorem plain_ends (figs kn : List Int) (al : Bool) (hfb : ∀ n ∈ figs, 0 ≤ n ∧ n < 16) (hkm : ∀ n ∈ kn, n = 0 ∨ n = 2 ∨ n = 4) (hrl : (rowF figs).length ≤ 10) :
    ∃ res, endsF (fun ps => allowF (freeR al ++ [(ags kn, false)]) (textOf (textF figs) ps)) ((textF figs).length + 1) (List.range (textF figs).length) [] = some res ∧
      res.Perm (dueF (rowF figs) kn (marksF (rowF figs) al) (cutsF (rowF figs)) (cutsF (rowF figs)).length) ∧ res.Pairwise (fun x y => y.1 < x.1) ∧ res.length ≤ 5 := by
  have hb := row_bound hfb
  rw [textF_len' hfb, text_row hfb]
  have hok : ∀ ps, (∀ p ∈ ps, p < (rowF figs).length) → (fun ps => allowF (freeR al ++ [(ags kn, false)]) (textOf (mkS ((rowF figs).map ch)) ps)) ps = okP (rowF figs) kn al ps := fun ps hp => ok_two hb hkm hp
  have hk : ∀ k ∈ kn, k + 1 ∉ kn := fun k h1 h2 => by
    have a := hkm k h1
    have b := hkm (k + 1) h2
    omega
  obtain ⟨T, R, e, hp⟩ := ends_main (rs := rowF figs) (al := al) hk (rowF figs).length 0 (by omega) (by omega)
  obtain ⟨d1, d2, d3⟩ := ends_desc (rs := rowF figs) (kn := kn) (al := al) (rowF figs).length 0
  have er := ends_run hok (rowF figs).length [] [] (Nat.le_refl _) (fun _ h => by cases h)
  rw [List.append_nil] at er
  rw [Nat.sub_zero] at e
  rw [← List.range_eq_range'] at d1 d3 e
  refine ⟨_, ?_, ?_, d1, ?_⟩
  · rw [endsF, if_pos]
    · exact er
    · rw [List.drop_of_length_le (by simp)]
      exact (hok [] (by simp)).trans okP_nil
  · rw [e, due_all, cutsF_eq]
    exact hp
  · omega
theorem desc_unique : ∀ {xs ys : List (Nat × Nat)}, xs.Perm ys → xs.Pairwise (fun x y => y.1 < x.1) → ys.Pairwise (fun x y => y.1 < x.1) → xs = ys
  | [], ys, hp, _, _ => by rw [List.nil_perm] at hp; exact hp.symm
  | x :: xs, [], hp, _, _ => by have := hp.length_eq; simp at this
  | x :: xs, y :: ys, hp, hx, hy => by
    rw [List.pairwise_cons] at hx hy
    have e : x = y := by
      have h1 : x ∈ y :: ys := hp.subset (.head _)
      have h2 : y ∈ x :: xs := hp.symm.subset (.head _)
      rcases List.mem_cons.mp h1 with h | h
      · exact h
      · rcases List.mem_cons.mp h2 with h' | h'
        · exact h'.symm
        · have a := hy.1 x h
          have b := hx.1 y h'
          omega
    subst e
    rw [desc_unique ((List.perm_cons _).mp hp) hx.2 hy.2]
-- PMin
theorem stopF_le (rs : List Int) (al : Bool) : stopF rs al ≤ rs.length := (stop_facts rs al).1
theorem row_short {ns : List Int} (h : ns.length = 5) : (rowF ns).length ≤ 10 := by
  have h1 := row_len (cutAt9 ns)
  have h2 := cut_len ns
  unfold rowF
  omega
theorem textF_len {figs : List Int} (hfl : figs.length = 5) (hfb : ∀ n ∈ figs, 0 ≤ n ∧ n < 16) : (textF figs).length ≤ 20 := by
  rw [textF_len' hfb]
  have := row_short hfl
  omega
theorem head_least : ∀ {l : List Int} {x : Int}, l.Pairwise (· < ·) → x ∈ l → ∃ a ∈ l.take 1, a ≤ x
  | [], _, _, h => by cases h
  | a :: r, x, hp, h => by
    rw [List.pairwise_cons] at hp
    refine ⟨a, by simp, ?_⟩
    rcases List.mem_cons.mp h with rfl | h
    · exact Int.le_refl _
    · exact Int.le_of_lt (hp.1 x h)
theorem places_asc (n : Nat) : (List.map (fun i : Nat => (0 : Int) + (i : Int)) (List.range n)).Pairwise (· < ·) := by
  rw [List.pairwise_map]
  refine List.Pairwise.imp (fun h => ?_) List.pairwise_lt_range
  omega
theorem cuts_iff {rs : List Int} {x : Int} : x ∈ List.filter (cutP rs) (List.map (fun i : Nat => (0 : Int) + (i : Int)) (List.range rs.length)) ↔ ∃ q : Nat, x = (q : Int) ∧ q < rs.length ∧ rs.getD q 0 = 7 := by
  rw [List.mem_filter, List.mem_map]
  constructor
  · rintro ⟨⟨q, hq, rfl⟩, h⟩
    rw [List.mem_range] at hq
    unfold cutP at h
    rw [beq_iff_eq] at h
    exact ⟨q, by omega, hq, by rw [← h]; congr 1; omega⟩
  · rintro ⟨q, rfl, hq, h7⟩
    refine ⟨⟨q, List.mem_range.mpr hq, by omega⟩, ?_⟩
    unfold cutP
    rw [beq_iff_eq, ← h7]; congr 1
theorem cutsF_asc (rs : List Int) : (cutsF rs).Pairwise (· < ·) := by
  unfold cutsF
  rw [List.pairwise_append]
  refine ⟨(places_asc _).filter _, List.pairwise_singleton _ _, fun a ha b hb => ?_⟩
  rw [cuts_iff] at ha
  obtain ⟨q, rfl, hq, _⟩ := ha
  rw [List.mem_singleton.mp hb]
  omega
theorem min_stop {rs : List Int} {al : Bool} {M : Int} (h1 : M ∈ (List.filter (cutP rs) (List.map (fun i : Nat => (0 : Int) + (i : Int)) (List.range rs.length)) ++ [(rs.length : Int)]).take 1 ++ (List.filter (markP rs al) (List.map (fun i : Nat => (0 : Int) + (i : Int)) (List.range rs.length))).take 1)
    (h2 : ∀ a, a ∈ (List.filter (cutP rs) (List.map (fun i : Nat => (0 : Int) + (i : Int)) (List.range rs.length)) ++ [(rs.length : Int)]).take 1 ++ (List.filter (markP rs al) (List.map (fun i : Nat => (0 : Int) + (i : Int)) (List.range rs.length))).take 1 → M ≤ a) : M = (stopF rs al : Nat) := by
  change M ∈ (cutsF rs).take 1 ++ (marksF rs al).take 1 at h1
  change ∀ a, a ∈ (cutsF rs).take 1 ++ (marksF rs al).take 1 → M ≤ a at h2
  obtain ⟨s1, s2, s3⟩ := stop_facts rs al
  have hge : ((stopF rs al : Nat) : Int) ≤ M := by
    rcases List.mem_append.mp h1 with h | h
    · have h := List.mem_of_mem_take h
      rcases List.mem_append.mp h with h | h
      · rw [cuts_iff] at h
        obtain ⟨q, rfl, hq, h7⟩ := h
        by_cases hs : q < stopF rs al
        · exact absurd h7 (s2 q hs).1
        · omega
      · rw [List.mem_singleton.mp h]; omega
    · have h := List.mem_of_mem_take h
      rw [marks_iff] at h
      obtain ⟨q, rfl, hq, h6⟩ := h
      by_cases hs : q < stopF rs al
      · exact absurd h6 (s2 q hs).2
      · omega
  have hle : M ≤ ((stopF rs al : Nat) : Int) := by
    have key : ((stopF rs al : Nat) : Int) ∈ cutsF rs ∨ ((stopF rs al : Nat) : Int) ∈ marksF rs al := by
      by_cases hs : stopF rs al < rs.length
      · rcases s3 hs with h | h
        · exact .inl (List.mem_append_left _ (cuts_iff.mpr ⟨_, rfl, hs, h⟩))
        · exact .inr (marks_iff.mpr ⟨_, rfl, hs, h⟩)
      · left
        have : stopF rs al = rs.length := by omega
        rw [this]
        exact List.mem_append_right _ (.head _)
    rcases key with h | h
    · obtain ⟨a, ha, hle⟩ := head_least (cutsF_asc rs) h
      have := h2 a (List.mem_append_left _ ha)
      omega
    · obtain ⟨a, ha, hle⟩ := head_least ((places_asc _).filter _) h
      have := h2 a (List.mem_append_right _ ha)
      omega
  omega
theorem cut_range {rs : List Int} {marks : List Int} (al : Bool) (hm : marks = marksF rs al) {i : Nat} (hi : i < (cutsF rs).length) : ∃ b m c : Nat, begF (cutsF rs) i = (b : Int) ∧ (cutsF rs).getD i 0 = (c : Int) ∧ mF marks (begF (cutsF rs) i) ((cutsF rs).getD i 0) = (m : Int) ∧ b ≤ m ∧ m ≤ c ∧ c ≤ rs.length := by
  have mem : ∀ i, i < (cutsF rs).length → ∃ c : Nat, (cutsF rs).getD i 0 = (c : Int) ∧ c ≤ rs.length := by
    intro i hi
    have h : (cutsF rs).getD i 0 ∈ cutsF rs := by
      rw [List.getD_eq_getElem?_getD, List.getElem?_eq_getElem hi]
      exact List.getElem_mem _
    rcases List.mem_append.mp h with h | h
    · rw [cuts_iff] at h
      obtain ⟨q, e, hq, _⟩ := h
      exact ⟨q, e, by omega⟩
    · exact ⟨rs.length, List.mem_singleton.mp h, Nat.le_refl _⟩
  obtain ⟨c, hc, hcl⟩ := mem i hi
  have hb : ∃ b : Nat, begF (cutsF rs) i = (b : Int) ∧ b ≤ c := by
    cases i with
    | zero => exact ⟨0, rfl, Nat.zero_le _⟩
    | succ i =>
      obtain ⟨b, hb, _⟩ := mem i (by omega)
      refine ⟨b + 1, ?_, ?_⟩
      · show (cutsF rs).getD i 0 + 1 = _
        rw [hb]; omega
      · have hp := List.pairwise_iff_getElem.mp (cutsF_asc rs) i (i + 1) (by omega) hi (by omega)
        rw [List.getD_eq_getElem?_getD, List.getElem?_eq_getElem (by omega)] at hb hc
        simp only [Option.getD_some] at hb hc
        omega
  obtain ⟨b, hb, hbc⟩ := hb
  obtain ⟨m, e, m1, m2, _⟩ := mF_facts (rs := rs) (al := al) hbc hcl
  exact ⟨b, m, c, hb, hc, by rw [hb, hc, hm]; exact e, m1, m2, hcl⟩
theorem mF_max {marks : List Int} {b c M : Int} (h1 : M ∈ [b] ++ (marks.filter fun p => decide (b ≤ p) && decide (p < c)).map (· + 1)) (h2 : ∀ a, a ∈ [b] ++ (marks.filter fun p => decide (b ≤ p) && decide (p < c)).map (· + 1) → a ≤ M) : M = mF marks b c := by
  obtain ⟨g1, g2, g3⟩ := foldl_max_le ((marks.filter fun p => decide (b ≤ p) && decide (p < c)).map (· + 1)) b
  have hM : mF marks b c ≤ M := by
    unfold mF
    rcases g3 with g3 | g3
    · rw [g3]; exact h2 _ (.head _)
    · exact h2 _ (.tail _ g3)
  have hM2 : M ≤ mF marks b c := by
    unfold mF
    rcases List.mem_cons.mp h1 with e | e
    · rw [e]; exact g1
    · exact g2 _ e
  omega
theorem dueF_len {rs kn marks : List Int} (al : Bool) (hm : marks = marksF rs al) : ∀ i, i ≤ (cutsF rs).length → (dueF rs kn marks (cutsF rs) i).length ≤ rs.length * i
  | 0, _ => by simp [dueF]
  | i + 1, h => by
    have ih := dueF_len al hm (kn := kn) i (by omega)
    obtain ⟨b, m, c, _, hc, hmm, _, _, hcl⟩ := cut_range al hm (i := i) (by omega)
    rw [dueF, List.length_append, hmm, hc, Int.toNat_natCast, Int.toNat_natCast]
    have h2 : (closedF rs kn m c).length ≤ c - m := (closedRun_len (rs := rs) (ks := kn) (b := m) (c - m)).2
    rw [Nat.mul_succ]
    omega
-- RSortC
/-- a run of the questions, each within bounds and of two -/
noncomputable def askB {α : Type} (n : Nat) (lt : Nat → Nat → Bool) : PySem.W.KasT α → Option α
  | .ret a => some a
  | .ask i j k => if (decide (i < n) && decide (j < n) && !(i == j)) = true then askB n lt (k (lt i j)) else none
theorem kas_of_run {α : Type} {n : Nat} {lt : Nat → Nat → Bool} {cmp : Nat → Nat → (Bool → Shared → Prop) → Shared → Prop} {Q : α → Shared → Prop} {s : Shared}
    (hc : ∀ i j (C : Bool → Shared → Prop), i < n → j < n → i ≠ j → C (lt i j) s → cmp i j C s) : ∀ (t : PySem.W.KasT α) (a : α), askB n lt t = some a → Q a s → t.kasWp cmp Q s
  | .ret b, a, h, hq => by
    unfold askB at h
    cases h
    exact hq
  | .ask i j k, a, h, hq => by
    unfold askB at h
    split at h
    · rename_i hb
      simp only [Bool.and_eq_true, decide_eq_true_eq, Bool.not_eq_true', beq_eq_false_iff_ne] at hb
      exact hc i j _ hb.1.1 hb.1.2 hb.2 (kas_of_run hc (k (lt i j)) a h hq)
    · cases h
noncomputable def tab (l : List Bool) (i j : Nat) : Bool := if i < j then l.getD (j * (j - 1) / 2 + i) false else if j < i then !(l.getD (i * (i - 1) / 2 + j) false) else false
noncomputable def transB (n : Nat) (l : List Bool) : Bool := (List.range n).all fun i => (List.range n).all fun j => (List.range n).all fun k => !(tab l i j && tab l j k) || tab l i k
noncomputable def okB (n : Nat) (l : List Bool) (p : Array Nat) : Bool := p.toList.isPerm (List.range n) && decide (p.toList.Pairwise fun i j => tab l i j = true)
noncomputable def chkB (n : Nat) (l : List Bool) : Bool := !(transB n l) || (match askB n (tab l) (PySem.W.kas_sort n) with | none => false | some p => okB n l p)
theorem chk2 : ∀ a, chkB 2 [a] = true := by decide +kernel
theorem chk3 : ∀ a b c, chkB 3 [a, b, c] = true := by decide +kernel
theorem chk4 : ∀ a b c d e f, chkB 4 [a, b, c, d, e, f] = true := by decide +kernel
theorem chk5 : ∀ a b c d e f g h i j, chkB 5 [a, b, c, d, e, f, g, h, i, j] = true := by decide +kernel
noncomputable def bitsOf (key : Nat → Nat) (n : Nat) : List Bool := (List.range n).flatMap fun j => (List.range j).map fun i => decide (key i < key j)
theorem chk_all (key : Nat → Nat) {n : Nat} (h2 : 2 ≤ n) (h5 : n ≤ 5) : chkB n (bitsOf key n) = true := by
  have : n = 2 ∨ n = 3 ∨ n = 4 ∨ n = 5 := (show ∀ n : Fin 6, 2 ≤ n.1 → n.1 = 2 ∨ n.1 = 3 ∨ n.1 = 4 ∨ n.1 = 5 by decide) ⟨n, Nat.lt_succ_of_le h5⟩ h2
  rcases this with rfl | rfl | rfl | rfl
  · exact chk2 _
  · exact chk3 _ _ _
  · exact chk4 _ _ _ _ _ _
  · exact chk5 _ _ _ _ _ _ _ _ _ _
theorem tab_bits (key : Nat → Nat) {n : Nat} (h2 : 2 ≤ n) (h5 : n ≤ 5) {i j : Nat} (hij : i < j) (hj : j < n) : tab (bitsOf key n) i j = decide (key i < key j) := by
  have hn : n = 2 ∨ n = 3 ∨ n = 4 ∨ n = 5 := (show ∀ n : Fin 6, 2 ≤ n.1 → n.1 = 2 ∨ n.1 = 3 ∨ n.1 = 4 ∨ n.1 = 5 by decide) ⟨n, Nat.lt_succ_of_le h5⟩ h2
  have hj' : j = 1 ∨ j = 2 ∨ j = 3 ∨ j = 4 := (show ∀ j : Fin 5, 1 ≤ j.1 → j.1 = 1 ∨ j.1 = 2 ∨ j.1 = 3 ∨ j.1 = 4 by decide) ⟨j, Nat.lt_of_lt_of_le hj h5⟩ (Nat.lt_of_le_of_lt (Nat.zero_le _) hij)
  have hi' : i = 0 ∨ i = 1 ∨ i = 2 ∨ i = 3 := (show ∀ i : Fin 4, i.1 = 0 ∨ i.1 = 1 ∨ i.1 = 2 ∨ i.1 = 3 by decide) ⟨i, Nat.lt_of_lt_of_le hij (Nat.le_of_lt_succ (Nat.lt_of_lt_of_le hj h5))⟩
  rcases hn with rfl | rfl | rfl | rfl <;> rcases hj' with rfl | rfl | rfl | rfl <;> rcases hi' with rfl | rfl | rfl | rfl <;> first | rfl | exact absurd hij (by decide) | exact absurd hj (by decide)
theorem tab_rev (l : List Bool) {i j : Nat} (h : i < j) : tab l j i = !(tab l i j) := by
  unfold tab
  rw [if_neg (by omega), if_pos h, if_pos h]
theorem tab_key {key : Nat → Nat} {n : Nat} (h2 : 2 ≤ n) (h5 : n ≤ 5) (hd : ∀ i j, i < n → j < n → i ≠ j → key i ≠ key j) {i j : Nat} (hi : i < n) (hj : j < n) (hij : i ≠ j) : tab (bitsOf key n) i j = decide (key i < key j) := by
  by_cases h : i < j
  · exact tab_bits key h2 h5 h hj
  · have h' : j < i := by omega
    rw [tab_rev _ h', tab_bits key h2 h5 h' hi, Bool.eq_iff_iff]
    have := hd i j hi hj hij
    simp only [Bool.not_eq_true', decide_eq_false_iff_not, decide_eq_true_eq]
    omega
theorem tab_self (l : List Bool) (i : Nat) : tab l i i = false := by
  unfold tab
  rw [if_neg (Nat.lt_irrefl _), if_neg (Nat.lt_irrefl _)]
theorem run_sorted {key : Nat → Nat} {n : Nat} (h2 : 2 ≤ n) (h5 : n ≤ 5) (hd : ∀ i j, i < n → j < n → i ≠ j → key i ≠ key j) :
    ∃ p : Array Nat, askB n (tab (bitsOf key n)) (PySem.W.kas_sort n) = some p ∧ p.toList.Perm (List.range n) ∧ p.toList.Pairwise fun i j => key i < key j := by
  have h := chk_all key h2 h5
  have ht : transB n (bitsOf key n) = true := by
    unfold transB
    simp only [List.all_eq_true, List.mem_range, Bool.or_eq_true, Bool.not_eq_true', Bool.and_eq_false_iff]
    intro i hi j hj k hk
    by_cases e1 : i = j
    · exact .inl (.inl (by rw [e1, tab_self]))
    · by_cases e2 : j = k
      · exact .inl (.inr (by rw [e2, tab_self]))
      · rw [tab_key h2 h5 hd hi hj e1, tab_key h2 h5 hd hj hk e2]
        by_cases e3 : i = k
        · subst e3
          simp only [decide_eq_false_iff_not]
          omega
        · rw [tab_key h2 h5 hd hi hk e3]
          simp only [decide_eq_false_iff_not, decide_eq_true_eq]
          omega
  unfold chkB at h
  rw [ht, Bool.not_true, Bool.false_or] at h
  cases e : askB n (tab (bitsOf key n)) (PySem.W.kas_sort n) with
  | none => rw [e] at h; cases h
  | some p =>
    rw [e] at h
    dsimp only at h
    unfold okB at h
    rw [Bool.and_eq_true, List.isPerm_iff, decide_eq_true_eq] at h
    refine ⟨p, rfl, h.1, ?_⟩
    refine List.Pairwise.imp_of_mem (fun {i j} hi hj hij => ?_) h.2
    have hi' := List.mem_range.mp (h.1.subset hi)
    have hj' := List.mem_range.mp (h.1.subset hj)
    have hne : i ≠ j := by
      rintro rfl
      rw [tab_self] at hij
      cases hij
    rw [tab_key h2 h5 hd hi' hj' hne] at hij
    exact of_decide_eq_true hij
-- RSort
section
variable {prog : Program} {E : Value → Shared → Prop}
theorem PairsAre.item {h : Heap} : ∀ {vs : List Value} {ps : List (Nat × Nat)}, PairsAre h vs ps → ∀ i, i < ps.length → ∃ a t u, vs.getD i Value.none = .ref a ∧ h.get? a = some { cls := .type "tuple", data := .seq #[.int (ps.getD i (0, 0)).1 t, .int (ps.getD i (0, 0)).2 u] } := by
  intro vs ps r
  induction r with
  | nil => intro i hi; exact absurd hi (Nat.not_lt_zero _)
  | cons e _ ih =>
    intro i hi
    cases i with
    | zero => exact ⟨_, _, _, rfl, e⟩
    | succ i => exact ih i (Nat.lt_of_succ_lt_succ hi)
theorem PairsAre.pick {h : Heap} {vs : List Value} {ps : List (Nat × Nat)} (p : PairsAre h vs ps) : ∀ (l : List Nat), (∀ i ∈ l, i < ps.length) → PairsAre h (l.map fun i => vs.getD i Value.none) (l.map fun i => ps.getD i (0, 0))
  | [], _ => .nil
  | i :: l, hl => by
    obtain ⟨a, t, u, e1, e2⟩ := p.item i (hl i (.head _))
    rw [List.map_cons, List.map_cons, e1]
    exact .cons e2 (p.pick l fun j hj => hl j (.tail _ hj))
theorem PairsAre.rev {h : Heap} : ∀ {vs : List Value} {ps : List (Nat × Nat)}, PairsAre h vs ps → PairsAre h vs.reverse ps.reverse := by
  intro vs ps r
  induction r with
  | nil => exact .nil
  | cons e _ ih =>
    rw [List.reverse_cons, List.reverse_cons]
    exact ih.snoc e
theorem PairsAre.tups {h : Heap} : ∀ {vs : List Value} {ps : List (Nat × Nat)}, PairsAre h vs ps → ∃ fs, PySem.W.KatTups h vs fs ∧ fs.length = ps.length ∧ ∀ f ∈ fs, ∃ n t, f = .int n t := by
  intro vs ps r
  induction r with
  | nil => exact ⟨[], .nil, rfl, fun f hf => by cases hf⟩
  | cons e _ ih =>
    obtain ⟨fs, h1, h2, h3⟩ := ih
    refine ⟨_ :: fs, .cons e rfl rfl (by rfl) h1, by rw [List.length_cons, List.length_cons, h2], fun f hf => ?_⟩
    rcases List.mem_cons.mp hf with rfl | hf
    · exact ⟨_, _, rfl⟩
    · exact h3 f hf
theorem pair_lt {a b : Addr} {p q : Nat × Nat} {t u t' u' : Tok} {Q : Bool → Shared → Prop} (ha : s.heap.get? a = some { cls := .type "tuple", data := .seq #[.int p.1 t, .int p.2 u] }) (hb : s.heap.get? b = some { cls := .type "tuple", data := .seq #[.int q.1 t', .int q.2 u'] })
    (hne : p.1 ≠ q.1) (h : Q (decide (p.1 < q.1)) s) : wpAny (model prog w) A (keyLt' (tuples' true) (.ref a) (.ref b)) Q E s := by
  refine kat_lt ha rfl hb rfl (kat_cons (wpAny_eqBool_int ?_))
  rw [show ((p.1 : Int) == (q.1 : Int)) = false by rw [beq_eq_false_iff_ne]; omega]
  refine kat_no (oneLt_int ?_)
  rw [show decide ((p.1 : Int) < (q.1 : Int)) = decide (p.1 < q.1) by rw [Bool.eq_iff_iff]; simp]
  exact h
noncomputable def desc (ps : List (Nat × Nat)) : Prop := ps.Pairwise fun x y => y.1 < x.1
theorem range_pick {α : Type} (l : List α) (d : α) : ((List.range l.length).map fun i => l.getD i d) = l := by
  apply List.ext_getElem
  · simp
  · intro i h1 h2
    simp
    rw [List.getElem?_eq_getElem h2]; rfl
theorem list_sort_pairs {a : Addr} {vs : List Value} {ps : List (Nat × Nat)} {n : Nat} {P : PySem.Fin → Shared → Prop} (ho : s.heap.get? a = some (seqObj "list" vs.toArray n)) (hp : PairsAre s.heap vs ps) (hd : (ps.map (·.1)).Nodup) (h5 : ps.length ≤ 5)
    (h : ∀ out qs, PairsAre s.heap out qs → qs.Perm ps → desc qs → P (.done (.ret .none)) { s with heap := sortedHeap s.heap a vs out.toArray }) :
    wpAny (model prog w) A (Builtin.«list.sort» ⟨[.ref a], [(Str.ofString "reverse", .bool true)]⟩) P E s := by
  rw [list_sort_rev]
  have hlen := hp.length
  have ha : a < s.heap.objs.size := Heap.lt_size ho
  obtain ⟨e1, ho1⟩ : ∃ e1, (s.heap.update a (Obj.mapSeq fun _ => (#[] : Array Value))).get? a = some (seqObj "list" #[] e1) := ⟨_, get?_update_seq ho fun _ => #[]⟩
  refine wpAny_bind (listItems_at ho rfl ?_)
  refine wpAny_bind (listUpdate_at ho rfl ?_ (by rw [List.size_toArray, sizeLine_eq]; omega) (Nat.zero_le _))
  refine wpAny_bind (seqEpoch_at ho1 rfl ?_)
  refine wpAny_bind (wpAny_newTuple ?_ (by show vs.length ≤ _; rw [sizeLine_eq]; omega))
  refine wpAny_bind (wpAny_newList ?_ (Nat.zero_le _))
  refine wpAny_holding ?_
  show wpAny (model prog w) A _ P E { s with heap := ((s.heap.update a (Obj.mapSeq fun _ => (#[] : Array Value))).push (seqObj "tuple" vs.toArray 0)).push (seqObj "list" #[] 0) }
  have ho6 : (((s.heap.update a (Obj.mapSeq fun _ => (#[] : Array Value))).push (seqObj "tuple" vs.toArray 0)).push (seqObj "list" #[] 0)).get? a = some (seqObj "list" #[] e1) := Heap.get?_push_of_some _ (Heap.get?_push_of_some _ ho1)
  have stay : TupStay s.heap (((s.heap.update a (Obj.mapSeq fun _ => (#[] : Array Value))).push (seqObj "tuple" vs.toArray 0)).push (seqObj "list" #[] 0)) := fun b o e c d => by
    refine Heap.get?_push_of_some _ (Heap.get?_push_of_some _ ?_)
    rw [Heap.get?_update_ne _ _ _ _ (by
      rintro rfl
      rw [ho] at e
      cases e
      exact absurd c (by simp [seqObj]))]
    exact e
  have hp6 := hp.stay stay
  have fin : ∀ st' out qs, ((arrOf st').map (·.2)).reverse = List.toArray out → PairsAre s.heap out qs → qs.Perm ps → desc qs →
      P (.done (.ret .none)) { s with heap := sortedHeap s.heap a vs ((arrOf st').map (·.2)).reverse } := by
    intro st' out qs e1 e2 e3 e4
    rw [e1]
    exact h out qs e2 e3 e4
  dsimp only
  rw [if_pos rfl, if_pos rfl]
  refine wpAny_bind (wpAny_rule ?_)
  by_cases h2 : vs.toArray.size < 2
  · rw [if_pos h2, if_pos h2]
    refine wpAny_bind (wpAny_pure ?_)
    rw [StateT.run_pure]
    refine wpAny_bind (wpAny_pure ?_)
    dsimp only
    have hsm : ((arrOf (SortSt.mk' general' (vs.toArray.zip vs.toArray).reverse #[] 7 none)).map (·.2)).reverse = vs.toArray := by
      have h2' : vs.length < 2 := by simpa using h2
      show (((vs.toArray.zip vs.toArray).reverse).map (·.2)).reverse = vs.toArray
      match vs, h2' with
      | [], _ => simp
      | [v], _ => simp
    refine wpAny_bind (seqEpoch_at ho6 rfl ?_)
    refine wpAny_bind (listUpdate_at ho6 rfl ?_ (Nat.zero_le _) (by
      rw [if_pos rfl, hsm, List.size_toArray, sizeLine_eq]; omega))
    simp only [bne_self_eq_false, Bool.false_eq_true, if_false, if_true]
    refine wpAny_pure (fin (SortSt.mk' general' (vs.toArray.zip vs.toArray).reverse #[] 7 none) vs ps hsm hp (List.Perm.refl _) ?_)
    have h2' : ps.length < 2 := by rw [List.size_toArray] at h2; omega
    unfold desc
    match ps, h2' with
    | [], _ => exact .nil
    | [p], _ => exact List.pairwise_singleton _ _
  · rw [if_neg h2, if_neg h2]
    have h2' : 2 ≤ ps.length := by rw [List.size_toArray] at h2; omega
    obtain ⟨fs, f1, f2, f3⟩ := hp6.tups
    refine wpAny_bind (kat_kind (T := Value.type "int") f1 (by omega) (fun v hv => ?_) (by decide) ?_)
    · obtain ⟨n, t, rfl⟩ := f3 v hv
      exact Looks.of_pure rfl
    rw [show (Value.type "int" != Value.type "tuple") = true by decide]
    have ez : (vs.toArray.zip vs.toArray).reverse = (List.toArray vs.reverse).zip (List.toArray vs.reverse) := kat_pairs (ks := vs) (vs := vs) true rfl
    rw [ez]
    have hkey : ∀ i j, i < ps.length → j < ps.length → i ≠ j → (ps.reverse.getD i (0, 0)).1 ≠ (ps.reverse.getD j (0, 0)).1 := by
      intro i j hi hj hij e
      have hn : (ps.reverse.map (·.1)).Nodup := by
        rw [List.map_reverse]
        unfold List.Nodup at hd ⊢
        rw [List.pairwise_reverse]
        exact hd.imp fun h => Ne.symm h
      have hi' : i < (ps.reverse.map (·.1)).length := by simpa using hi
      have hj' : j < (ps.reverse.map (·.1)).length := by simpa using hj
      refine hij ((List.getElem_inj (h₀ := hi') (h₁ := hj') hn).mp ?_)
      have hi2 : i < ps.reverse.length := by simpa using hi
      have hj2 : j < ps.reverse.length := by simpa using hj
      rw [List.getD_eq_getElem?_getD, List.getD_eq_getElem?_getD, List.getElem?_eq_getElem hi2, List.getElem?_eq_getElem hj2] at e
      rw [List.getElem_map, List.getElem_map]
      exact e
    obtain ⟨p, r1, r2, r3⟩ := run_sorted (key := fun i => (ps.reverse.getD i (0, 0)).1) h2' h5 hkey
    have hbound : ∀ i ∈ p.toList, i < ps.reverse.length := fun i hi => by
      have := List.mem_range.mp (r2.subset hi)
      rw [List.length_reverse]; exact this
    have hr6 := hp6.rev
    have hrl : vs.reverse.length = ps.length := by rw [List.length_reverse, hlen]
    have hask : (PySem.W.kas_sort vs.reverse.length).kasWp (kas_ask prog w A (tuples' true) vs.reverse) (fun p' s' => p' = p ∧ s' = { s with heap := ((s.heap.update a (Obj.mapSeq fun _ => (#[] : Array Value))).push (seqObj "tuple" vs.toArray 0)).push (seqObj "list" #[] 0) })
        { s with heap := ((s.heap.update a (Obj.mapSeq fun _ => (#[] : Array Value))).push (seqObj "tuple" vs.toArray 0)).push (seqObj "list" #[] 0) } := by
      rw [hrl]
      refine kas_of_run (n := ps.length) (lt := tab (bitsOf (fun i => (ps.reverse.getD i (0, 0)).1) ps.length)) ?_ _ p r1 ⟨rfl, rfl⟩
      intro i j C hi hj hij hC
      rw [tab_key h2' h5 hkey hi hj hij] at hC
      obtain ⟨a1, t1, u1, g1, g2⟩ := hr6.item i (by rw [List.length_reverse]; exact hi)
      obtain ⟨a2, t2, u2, k1, k2⟩ := hr6.item j (by rw [List.length_reverse]; exact hj)
      unfold kas_ask
      rw [g1, k1]
      exact pair_lt g2 k2 (hkey i j hi hj hij) hC
    refine wpAny_bind (wpAny_mono (kat_run (ks := vs.reverse) (vs := vs.reverse) (Q := fun st' s' => (arrOf st' = p.map (kas_item ((List.toArray vs.reverse).zip (List.toArray vs.reverse))) ∧ failedOf st' = none) ∧ s' = { s with heap := ((s.heap.update a (Obj.mapSeq fun _ => (#[] : Array Value))).push (seqObj "tuple" vs.toArray 0)).push (seqObj "list" #[] 0) })
      rfl (by rw [hrl]; exact h2') (by rw [hrl]; omega) (fun p' st' s' a1 a2 a3 a4 => ⟨⟨by rw [a2, a4.1], a3⟩, a4.2⟩) hask) ?_ fun _ _ e => e)
    rintro ⟨⟨⟩, st'⟩ s' ⟨⟨har, hf⟩, rfl⟩
    dsimp only
    have hout := kat_snds (ks := vs.reverse) (vs := vs.reverse) rfl har
    have hrev : ((arrOf st').map (·.2)).reverse = List.toArray (p.toList.map fun i => vs.reverse.getD i Value.none).reverse := by
      rw [hout]; simp
    have hpl : p.toList.length = ps.length := by rw [r2.length_eq, List.length_range]
    refine wpAny_bind (seqEpoch_at ho6 rfl ?_)
    refine wpAny_bind (listUpdate_at ho6 rfl ?_ (Nat.zero_le _) (by
      rw [if_pos rfl, hrev, List.size_toArray, List.length_reverse, List.length_map, hpl, sizeLine_eq]; omega))
    rw [hf]
    simp only [bne_self_eq_false, Bool.false_eq_true, if_false, if_true]
    refine wpAny_pure (fin st' _ (p.toList.map fun i => ps.reverse.getD i (0, 0)).reverse hrev (hp.rev.pick _ hbound).rev ?_ ?_)
    · refine (List.reverse_perm _).trans ((r2.map _).trans ?_)
      rw [← List.length_reverse, range_pick]
      exact List.reverse_perm _
    · unfold desc
      rw [List.pairwise_reverse, List.pairwise_map]
      exact r3
end
-- RSort2
section
variable {prog : Program} {E : Value → Shared → Prop}
theorem sorted_pairs {l : Addr} {vs : List Value} {ps : List (Nat × Nat)} {Q : Value → Shared → Prop} (hl : s.heap.IsList l vs.toArray) (hp : PairsAre s.heap vs ps) (hd : (ps.map (·.1)).Nodup) (h5 : ps.length ≤ 5)
    (h : ∀ D h' out qs e, s.heap.StaysIn h' → s.heap.get? D = none → h'.get? D = some (listOf (List.toArray out) e) → PairsAre h' out qs → qs.Perm ps → desc qs → Q (.ref D) { s with heap := h' }) :
    wpAny (model prog w) A (call (.builtin "sorted") [.ref l] [(Str.ofString "reverse", .bool true)]) Q E s := by
  have hlen := hp.length
  refine call_function_entry_kw kind_sorted plain_sorted entry_sorted (args_sorted_rev _ _) ?_
  unfold Builtin.«sorted»
  refine wpAny_bind (m := checkCount "sorted" 1 1 _) (wpAny_pure ?_)
  refine wpAny_bind (collect_list hl ?_ (by show vs.length ≤ _; rw [sizeLine_eq]; omega))
  refine wpAny_bind (wpAny_newList ?_ (by show vs.length ≤ _; rw [sizeLine_eq]; omega))
  have hsz : ((s.heap.push (seqObj "list" #[] 0)).update s.heap.objs.size (Obj.mapSeq (· ++ vs.toArray))).objs.size = s.heap.objs.size + 1 := by
    rw [Heap.size_update, size_push']
  have hoL : (((s.heap.push (seqObj "list" #[] 0)).update s.heap.objs.size (Obj.mapSeq (· ++ vs.toArray))).push (seqObj "list" vs.toArray 0)).get? (s.heap.objs.size + 1) = some (seqObj "list" vs.toArray 0) := by
    rw [← hsz]; exact Heap.get?_push_size _ rfl
  have keep : ∀ b o, s.heap.get? b = some o → (((s.heap.push (seqObj "list" #[] 0)).update s.heap.objs.size (Obj.mapSeq (· ++ vs.toArray))).push (seqObj "list" vs.toArray 0)).get? b = some o := fun b o q => by
    have hlt : b < s.heap.objs.size := Heap.lt_size q
    refine Heap.get?_push_of_some _ ?_
    rw [Heap.get?_update_ne _ _ _ _ (Nat.ne_of_lt hlt)]
    exact Heap.get?_push_of_some _ q
  show wpAny _ _ _ _ _ { s with heap := ((s.heap.push (seqObj "list" #[] 0)).update s.heap.objs.size (Obj.mapSeq (· ++ vs.toArray))).push (seqObj "list" vs.toArray 0) }
  rw [hsz]
  have fresh : s.heap.get? (s.heap.objs.size + 1) = none := by
    cases e : s.heap.get? (s.heap.objs.size + 1) with
    | none => rfl
    | some o => exact absurd (Heap.lt_size e) (Nat.not_lt.mpr (Nat.le_succ _))
  refine wpAny_bind (wpAny_holding (wpAny_call_entry_kw slot_list_sort ⟨_, hoL, rfl⟩ entry_list_sort
    (list_sort_pairs (s := { s with heap := ((s.heap.push (seqObj "list" #[] 0)).update s.heap.objs.size (Obj.mapSeq (· ++ vs.toArray))).push (seqObj "list" vs.toArray 0) }) hoL (hp.stay fun b o e _ _ => keep b o e) hd h5 fun out qs a1 a2 a3 => ⟨_, rfl, ?_⟩) (args_list_sort_rev _ _)))
  refine wpAny_pure ⟨_, rfl, ?_⟩
  obtain ⟨e, he⟩ := sortedAll_at s.heap vs out.toArray
  refine h (s.heap.objs.size + 1) (sortedAll s.heap vs out.toArray) out qs e (fun b o e => sortedAll_old e) fresh he ?_ a2 a3
  refine a1.stay fun b o e c d => ?_
  have hb : b ≠ s.heap.objs.size + 1 := by
    rintro rfl
    have e' : some o = some (seqObj "list" vs.toArray 0) := e.symm.trans hoL
    cases Option.some.inj e'
    exact absurd c (by simp [seqObj])
  have e2 : (((s.heap.push (seqObj "list" #[] 0)).update s.heap.objs.size (Obj.mapSeq (· ++ vs.toArray))).push (seqObj "list" vs.toArray 0)).get? b = some o := e
  have hlt : b < (((s.heap.push (seqObj "list" #[] 0)).update s.heap.objs.size (Obj.mapSeq (· ++ vs.toArray))).push (seqObj "list" vs.toArray 0)).objs.size := Heap.lt_size e2
  unfold sortedAll
  rw [sortedHeap_old hb hlt]
  exact e2
end
end
section
local macro_rules | `(tactic| walk_at $s:str) => if ["exec For Name Attribute cons nil", "exec For Name Subscript cons nil", "exec For Name Name cons nil", "exec For Name Call cons nil", "exec For Tuple Call cons nil", "exec While", "exec Assign cons ListComp", "eval ListComp", "subscriptTail Name UnaryOp ref int", "subscriptTail Name Subscript ref int", "subscriptTail Name Name ref int", "subscriptTail Name UnaryOp Constant ref int", "subscriptTail Name Subscript Name UnaryOp ref int", "call builtin:list.pop cons nil", "compareOp NotEq ref ref", "compareOp Eq ref ref", "compareOp In int ref", "call builtin:str.join cons nil", "subscriptTail Name BinOp ref int", "subscriptTail Name Slice ref ref"].contains s.getString then `(tactic| (refine Hold.mk ?_)) else `(tactic| fail)
local macro_rules | `(tactic| walk_at "pyIter ref") => `(tactic| ((with_reducible show wpAny _ _ (pyIter (Value.ref _)) (fun _ _ => codeAny _ _ _ _ _) _ _); refine Hold.mk ?_))
local macro_rules | `(tactic| walk_at "call ref") => `(tactic| ((first | (with_reducible show wpAny _ _ (call (Value.ref 94) _) _ _ _) | (with_reducible show wpAny _ _ (call (Value.ref 87) _) _ _ _) | (with_reducible show wpAny _ _ (call (Value.ref 106) _) _ _ _) | (with_reducible show wpAny _ _ (call (Value.ref 111) _) _ _ _) | (with_reducible show wpAny _ _ (call (Value.ref 118) _) _ _ _) | (with_reducible show wpAny _ _ (call (Value.ref 80) _) _ _ _)); refine Hold.mk ?_))
local macro_rules | `(tactic| walk_at "eval Name") => `(tactic| (k_here; k_dflt (refine' nameX_L ?F ?v ?_ ?a ?b; (case F => k_asm); (case a => rfl); (case b => rfl); (case v => assumption); k_whole)))
local macro_rules | `(tactic| walk_at "no such place") => `(tactic| fail)
local macro_rules | `(tactic| walk_at "no such place") => `(tactic| fail)
local macro_rules | `(tactic| walk_at "no such place") => `(tactic| fail)
local macro_rules | `(tactic| walk_at "no such place") => `(tactic| fail)
variable {w : World} {mean : ExcName → Option Value} {mg mb : Str → Option Value} {A : Around} {base : Heap} {outer : List Env} {s : Shared}
/-- what stands, by names -/
theorem pack {g h : Heap} {L : Addr} {m : Str → Option Value} {l : List (Addr × Obj)} (F : Fr g L h m) (N : News g L h l) : ∃ m' X, Fr g L h m' ∧ News g L h X ∧ (∀ x v, m x = some v → m' x = some v) ∧ (∀ p ∈ l, p ∈ X) := ⟨m, l, F, N, fun _ _ e => e, fun _ h => h⟩
theorem newsX {g h h' : Heap} {L : Addr} {m : Str → Option Value} {X : List (Addr × Obj)} {a : Addr} {o : Obj} (F : Fr g L h m) (N : News g L h X) (st : h.StaysIn h') (hn : h.get? a = none) (e : h'.get? a = some o) : News g L h' ((a, o) :: X) := by
  intro p hp
  rcases List.mem_cons.mp hp with rfl | hp
  · refine ⟨e, ?_, ?_⟩
    · rintro rfl
      obtain ⟨o', _, _, ho, _⟩ := F.ns
      rw [ho] at hn; cases hn
    · cases e' : g.get? a with
      | none => rfl
      | some o' => rw [F.keep _ _ e'] at hn; cases hn
  · exact ⟨st _ _ (N p hp).1, (N p hp).2⟩
theorem store_cell {g : Heap} {L c a : Addr} {cn : Str} {cs : Scope} {ccd : Value} {cl : List (Str × Addr)} {x : Str} {o : Obj} {v₀ : Option Value} {v : Value} {m : Str → Option Value} {X : List (Addr × Obj)} {M : Model} {E : Value → Shared → Prop} {Q : Unit → Shared → Prop} (F : Fr g L s.heap m) (N : News g L s.heap X) (hm : (c, o) ∈ X) (hd : o.data = .cell v₀) (hc : cl.lookup x = some c)
    (h : ∀ h' o' X', Fr g L h' m → News g L h' X' → (c, o') ∈ X' → o'.data = .cell (some v) → (∀ b ob, (b, ob) ∈ X → (isCellB0 ob = false ∨ b ≠ c) → (b, ob) ∈ X') → Q () { s with heap := h' })
    (hk : cs.kind = .function := by rfl) (hx : (envX cn cs L a ccd cl).kindOf x = some .cell := by rfl) : wpAny M A (storeName (envX cn cs L a ccd cl) x v) Q E s := by
  have nc := N _ hm
  have NR : News g L s.heap ((c, o) :: restOf g L [c] s.heap) := fun p hp => by
    rcases List.mem_cons.mp hp with rfl | hp
    · exact nc
    · exact rest_news p hp
  refine storeX_C F NR hc (UpdF.head fun p hp => rest_off c (.head _) p hp) hd (fun h' o' F' N' d' => h h' o' _ F' N' (.head _) d' fun b ob hb hne => .tail _ (mem_restOf.mpr ⟨(N _ hb).2.1, ?_, (N _ hb).2.2, (N _ hb).1⟩)) hk hx
  intro hbc
  have e : b = c := List.mem_singleton.mp hbc
  rcases hne with hne | hne
  · have e3 : o = ob := Option.some.inj (nc.1.symm.trans ((congrArg s.heap.get? e.symm).trans (N _ hb).1))
    rw [← e3] at hne
    unfold isCellB0 at hne
    rw [hd] at hne
    cases hne
  · exact hne e
theorem cell_ne {a k l : Nat} (h : k ≠ l) : a + k ≠ a + l := fun e => h (Nat.add_left_cancel e)
theorem packF {g h : Heap} {L : Addr} {m : Str → Option Value} (F : Fr g L h m) : ∃ m', Fr g L h m' ∧ (∀ x v, m x = some v → m' x = some v) := ⟨m, F, fun _ _ e => e⟩
theorem sum_sgn : ∀ (rs : List Int), ((rs.map sgn).map (·.length)).sum = rs.length
  | [] => rfl
  | n :: r => by
    rw [List.map_cons, List.map_cons, List.sum_cons, sum_sgn r, List.length_cons]
    show 1 + r.length = _
    omega
theorem nameC {M : Model} {E : Value → Shared → Prop} {env : Env} {x : Str} {p : Pos} {c : Addr} {o : Obj} {v : Value} {g h : Heap} {L : Addr} {news : List (Addr × Obj)} {Q : Value → Shared → Prop} (N : News g L h news) (hst : h.StaysIn s.heap)
    (hk : env.scope.kind = .function) (hl : env.kindOf x = some .cell) (hc : env.cells.lookup x = some c) (hm : (c, o) ∈ news) (hd : o.data = .cell (some v)) (hx : (x == ("__debug__" : Str)) = false) (hQ : Q v s) : wpAny M A (eval (.Name x p) env) Q E s :=
  wpAny_Name (wpAny_loadName_cell hk hl hc ⟨o, hst _ _ (N _ hm).1, hd⟩ hQ) hx
theorem nameLoc {M : Model} {E : Value → Shared → Prop} {env : Env} {x : Str} {p : Pos} {v : Value} {m : Str → Option Value} {Q : Value → Shared → Prop} (hn : s.heap.Ns env.locals m)
    (hk : env.scope.kind = .function) (hl : env.kindOf x = some .local) (hv : m x = some v) (hx : (x == ("__debug__" : Str)) = false) (hQ : Q v s) : wpAny M A (eval (.Name x p) env) Q E s :=
  wpAny_Name (wpAny_loadName_local hk hl hn hv hQ) hx
theorem kinds_mem {p : Int → Bool} {n : Int} (h : n ∈ [(0 : Int), 2, 4].filter p) : n = 0 ∨ n = 2 ∨ n = 4 := by
  have := (List.mem_filter.mp h).1
  simpa using this
theorem tuple_N {prog : Program} {E : Value → Shared → Prop} {g : Heap} {L : Addr} {m : Str → Option Value} {news : List (Addr × Obj)} {items : List Value} {Q : Value → Shared → Prop} (F : Fr g L s.heap m) (N : News g L s.heap news) (hz : items.length ≤ 1000)
    (h : ∀ T h', Fr g L h' m → News g L h' ((T, { cls := .type "tuple", data := .seq items.toArray }) :: news) → (∀ p ∈ news, p.1 < T) → Q (.ref T) { s with heap := h' }) : wpAny (model prog w) A (newTuple items) Q E s := by
  refine wpAny_newTuple ?_ (by rw [sizeLine_eq]; omega)
  exact h _ _ (F.push _) (N.push F _) fun p hp => Heap.lt_size (N p hp).1
theorem tuple_H {prog : Program} {E : Value → Shared → Prop} {items : List Value} {Q : Value → Shared → Prop} (hz : items.length ≤ 1000)
    (h : ∀ T h', (∀ b o, s.heap.get? b = some o → h'.get? b = some o) → IsTup h' T items.toArray → Q (.ref T) { s with heap := h' }) : wpAny (model prog w) A (newTuple items) Q E s := by
  refine wpAny_newTuple ?_ (by rw [sizeLine_eq]; omega)
  exact h _ _ (fun b o e => Heap.get?_push_of_some _ e) ⟨_, Heap.get?_push_size _ rfl, rfl, 0, rfl⟩
local macro_rules | `(tactic| walk_at "eval Name") => `(tactic| ((with_reducible show wpAny _ _ (eval (Expr.Name _ _) (compEnvC _ _ _ _)) _ _ _); first | (refine' nameLoc ?F ?a ?b ?v ?d ?_; (case F => with_unfolding_all assumption); (case a => with_unfolding_all rfl); (case b => with_unfolding_all rfl); (case v => with_unfolding_all assumption); (case d => with_unfolding_all decide)) | refine Hold.mk ?_))
local macro_rules | `(tactic| walk_at $s:str) => if ["subscriptTail Name Constant ref int", "newTuple", "subscriptTail Tuple BinOp ref int", "eval IfExp"].contains s.getString then `(tactic| (refine Hold.mk ?_)) else `(tactic| fail)
local macro_rules | `(tactic| k_mem) => `(tactic| assumption)
local macro_rules | `(tactic| walk_at "call ref") => `(tactic| ((first | (with_reducible show wpAny _ _ (call (Value.ref 63) _) _ _ _) | (with_reducible show wpAny _ _ (call (Value.ref 101) _) _ _ _)); refine Hold.mk ?_))
local macro_rules | `(tactic| is_list) => `(tactic| exact News.isList (by assumption) (by first | assumption | exact List.mem_cons_of_mem _ (by assumption) | exact List.mem_cons_of_mem _ (List.mem_cons_of_mem _ (by assumption))))
theorem addl {prog : Program} {E : Value → Shared → Prop} {g : Heap} {L : Addr} {m : Str → Option Value} {news : List (Addr × Obj)} {l b : Addr} {vs ws : List Value} {Q : Value → Shared → Prop} (F : Fr g L s.heap m) (N : News g L s.heap news) (hl : s.heap.IsList l vs.toArray) (hb : s.heap.IsList b ws.toArray) (hz : vs.length + ws.length ≤ 1000)
    (h : ∀ D h', Fr g L h' m → News g L h' ((D, listOf (List.toArray (vs ++ ws)) 0) :: news) → (∀ p ∈ news, p.1 < D) → Q (.ref D) { s with heap := h' }) :
    wpAny (model prog w) A (binaryOp .Add (.ref l) (.ref b)) Q E s :=
  add_lists F N hl hb (fun h' F' N' => h _ h' F' N' fun p hp => Heap.lt_size (N p hp).1) (by rw [sizeLine_eq]; omega)
theorem strs_append : ∀ {vs : List Value} {ss : List Str} {ws : List Value} {ts : List Str}, StrsAre vs ss → StrsAre ws ts → StrsAre (vs ++ ws) (ss ++ ts) := by
  intro vs ss ws ts r h'
  induction r with
  | nil => exact h'
  | cons a b _ ih => exact .cons a b ih
theorem addl_strs {prog : Program} {E : Value → Shared → Prop} {g : Heap} {L : Addr} {m : Str → Option Value} {news : List (Addr × Obj)} {l b : Addr} {vs ws : List Value} {ss ts : List Str} {Q : Value → Shared → Prop} (F : Fr g L s.heap m) (N : News g L s.heap news) (hl : s.heap.IsList l vs.toArray) (hb : s.heap.IsList b ws.toArray) (hi : StrsAre vs ss) (hj : StrsAre ws ts) (hz : ss.length + ts.length ≤ 1000)
    (h : ∀ D h' xs, Fr g L h' m → News g L h' ((D, listOf (List.toArray xs) 0) :: news) → (∀ p ∈ news, p.1 < D) → StrsAre xs (ss ++ ts) → Q (.ref D) { s with heap := h' }) :
    wpAny (model prog w) A (binaryOp .Add (.ref l) (.ref b)) Q E s :=
  addl F N hl hb (by rw [hi.length, hj.length]; exact hz) fun D h' F' N' l1 => h D h' _ F' N' l1 (strs_append hi hj)
theorem sps_len (n : Int) : (opS n).length ≤ 1 ∧ (clS n).length ≤ 1 := by
  unfold opS clS
  split
  · decide +kernel
  · split
    · decide +kernel
    · decide +kernel
theorem pairS_len (n : Int) : (pairS n).length ≤ 10 := by
  have h := sps_len n
  unfold pairS
  rw [Str.length_append]
  omega
theorem spO {n : Int} (h : n = 7 ∨ n = 9 ∨ n = 25) : PySem.Spec.lookup (.int n) SPD = some (.str (opS n)) := by
  rcases h with rfl | rfl | rfl
  · exact spl7
  · exact spl9
  · exact spl25
theorem spC {n : Int} (h : n = 7 ∨ n = 9 ∨ n = 25) : PySem.Spec.lookup (.int (n + 1)) SPD = some (.str (clS n)) := by
  rcases h with rfl | rfl | rfl
  · exact spl8
  · exact spl10
  · exact spl26
theorem grow_list {g h h' : Heap} {L : Addr} {m : Str → Option Value} {news nf : List (Addr × Obj)} (F : Fr g L h m) (N : News g L h news) (st : h.StaysIn h') (hn : ∀ p ∈ nf, h'.get? p.1 = some p.2 ∧ h.get? p.1 = none) : News g L h' (news ++ nf) := by
  intro p hp
  rcases List.mem_append.mp hp with hp | hp
  · exact ⟨st _ _ (N p hp).1, (N p hp).2⟩
  · obtain ⟨e, hn⟩ := hn p hp
    refine ⟨e, ?_, ?_⟩
    · intro q
      obtain ⟨o', _, _, ho, _⟩ := F.ns
      rw [q, ho] at hn; cases hn
    · cases e' : g.get? p.1 with
      | none => rfl
      | some o' => rw [F.keep _ _ e'] at hn; cases hn
theorem EntL.atV {news : List (Addr × Obj)} {x : Addr} {rules : List (List Str × Bool)} (e : EntL news x rules) : ∃ vs, ∀ (g h : Heap) (L : Addr), News g L h news → EntV h x vs rules := by
  obtain ⟨dx, es, n, u, n2, rl, vs, n3, a, b, c, d, e1, e2, f, g1, h⟩ := e
  exact ⟨vs, fun g h' L N => ⟨dx, es, n, u, rl, InstAt.of_news N a b, c, d, e1, e2, News.isList N f, News.isList N g1, h _ _ _ N⟩⟩
theorem EntV.rules {h : Heap} {x : Addr} {vs : List Value} {rules : List (List Str × Bool)} (e : EntV h x vs rules) : RulesAre h vs rules := by
  obtain ⟨_, _, _, _, _, _, _, _, _, _, _, _, r⟩ := e
  exact r
theorem ifexp_jn {e : PySem.Expr} {env : Env} {E : Value → Shared → Prop} {Q : Value → Shared → Prop} {g : Heap} {L : Addr} {m : Str → Option Value} (X : List (Addr × Obj)) (rules : List (List Str × Bool)) (F : Fr g L s.heap m)
    (h1 : wpAny (model PG w) A (eval e env) (fun v s' => Hold (∃ x h' tk nf, v = .ref x ∧ s' = { s with heap := h', toks := tk } ∧ Fr g L h' m ∧ News g L h' (nf ++ X) ∧ EntL nf x rules ∧ (nf.all fun p => !isCellB0 p.2) = true)) E s)
    (h2 : ∀ x h' tk nf, Fr g L h' m → News g L h' (nf ++ X) → EntL nf x rules → (nf.all fun p => !isCellB0 p.2) = true → Q (.ref x) { s with heap := h', toks := tk }) : wpAny (model PG w) A (eval e env) Q E s := by
  refine wpAny_mono h1 (fun v s' h => ?_) fun _ _ e => e
  obtain ⟨x, h', tk, nf, rfl, rfl, F', N', en, c⟩ := h
  exact h2 x h' tk nf F' N' en c
theorem range_mem {n : Int} {k : Nat} (h : n ∈ (List.range k).map fun i : Nat => (0 : Int) + (i : Int)) : ∃ i : Nat, i < k ∧ n = (i : Int) := by
  obtain ⟨i, hi, rfl⟩ := List.mem_map.mp h
  exact ⟨i, List.mem_range.mp hi, by omega⟩
theorem addl_ints2 {prog : Program} {E : Value → Shared → Prop} {g : Heap} {L : Addr} {m : Str → Option Value} {news : List (Addr × Obj)} {l b : Addr} {vs ws : List Value} {ns ms : List Int} {Q : Value → Shared → Prop} (F : Fr g L s.heap m) (N : News g L s.heap news) (hl : s.heap.IsList l vs.toArray) (hb : s.heap.IsList b ws.toArray) (hi : IntsAre vs ns) (hj : IntsAre ws ms) (hz : ns.length + ms.length ≤ 1000)
    (h : ∀ D h' xs, Fr g L h' m → News g L h' ((D, listOf (List.toArray xs) 0) :: news) → (∀ p ∈ news, p.1 < D) → IntsAre xs (ns ++ ms) → Q (.ref D) { s with heap := h' }) :
    wpAny (model prog w) A (binaryOp .Add (.ref l) (.ref b)) Q E s :=
  addl2 F N hl hb (by rw [hi.length, hj.length]; exact hz) fun D h' F' N' l1 => h D h' _ F' N' l1 (hi.append hj)
theorem ne_cell {g h : Heap} {L a c : Addr} {X : List (Addr × Obj)} {o oc : Obj} (N : News g L h X) (ha : (a, o) ∈ X) (hc : (c, oc) ∈ X) (k1 : isCellB0 o = false) (k2 : isCellB0 oc = true) : a ≠ c := by
  rintro rfl
  have e : o = oc := Option.some.inj ((N _ ha).1.symm.trans (N _ hc).1)
  rw [← e, k1] at k2
  cases k2
theorem cellB {o : Obj} {v : Option Value} (h : o.data = .cell v) : isCellB0 o = true := by unfold isCellB0; rw [h]
theorem newsP {g h : Heap} {L : Addr} {l l' : List (Addr × Obj)} {p : Addr × Obj} (N : News g L h l) (hm : p ∈ l) (N' : News g L h l') : News g L h (p :: l') := fun q hq => by
  rcases List.mem_cons.mp hq with rfl | hq
  · exact N _ hm
  · exact N' _ hq
theorem tup_off {g h h' : Heap} {L due bg : Addr} {m m' : Str → Option Value} {news : List (Addr × Obj)} {xs : Array Value} {n : Nat} {o : Obj} {v : Option Value} (F : Fr g L h m) (F' : Fr g L h' m') (N : News g L h' news) (hs : ∀ p ∈ restOf g L [due, bg] h, p ∈ news)
    (e1 : h.get? due = some (listOf xs n)) (e3 : h.get? bg = some o) (e4 : o.data = .cell v) : TupStay h h' := by
  refine .of_off (off_of_rest F F' N hs) fun b hb o' e c d => ?_
  rcases List.mem_cons.mp hb with rfl | hb
  · exact ns_notTup F.ns e d
  · rcases List.mem_cons.mp hb with rfl | hb
    · exact list_notTup e1 e c
    · rw [List.mem_singleton.mp hb, e3] at e
      cases e
      obtain ⟨xs, k, hd⟩ := d
      rw [e4] at hd
      cases hd

theorem desc_nodup : ∀ {ps : List (Nat × Nat)}, ps.Pairwise (fun x y => y.1 < x.1) → (ps.map (·.1)).Nodup := by
  intro ps h
  unfold List.Nodup
  rw [List.pairwise_map]
  exact h.imp fun {a b} h e => by omega
theorem law_walk : PWalks := by
  intro d kwd e
  have r := (rfl : defOf pView pLaw.name = some (_, _))
  cases r.symm.trans e
  clear r e
  k_go0
  (all_goals try k_fold)
  k_steps
  refine Hold.of ?_
  rename_i w s₀ s₁ mg mb G Y fa o pm doc ho hg KX X V GL T B TE TW w_1 w_2 M w_3 w_4 hcd ns hs hlay0 hL hr hl2 w_5 w_6 w_7 w_8 w_9 hL_1 ra w1 r0 hI hr_1 h63 hcond K0 hD h₁ tk₁ oCut oBeg oAll oSpe oRow oNum dCut dBeg dAll dSpe dRow dNum X0 l' h' l1 h'' F1 N1
  have dCut : oCut.data = .cell none := dCut
  have dBeg : oBeg.data = .cell none := dBeg
  have dAll : oAll.data = .cell none := dAll
  have dSpe : oSpe.data = .cell none := dSpe
  have dRow : oRow.data = .cell none := dRow
  have dNum : oNum.data = .cell none := dNum
  obtain ⟨m1, X1, F2, N2, km, kx⟩ := pack F1 N1
  have mOwn := km (Str.ofString "own") _ rfl
  have mScr := km (Str.ofString "script") _ rfl
  have xOwn := kx _ (.head _)
  have xCut := kx _ (.tail _ (.head _))
  have xBeg := kx _ (.tail _ (.tail _ (.head _)))
  have xAll := kx _ (.tail _ (.tail _ (.tail _ (.head _))))
  have xSpe := kx _ (.tail _ (.tail _ (.tail _ (.tail _ (.head _)))))
  have xRow := kx _ (.tail _ (.tail _ (.tail _ (.tail _ (.tail _ (.head _))))))
  have xNum := kx _ (.tail _ (.tail _ (.tail _ (.tail _ (.tail _ (.tail _ (.head _)))))))
  clear km kx F1 N1 l1 X0
  refine' slice_to (k := 6) F2 N2 (hL_1.at fun o e => F2.keep _ _ e) hI rfl ?z1 ?_ ?s1 ?t1
  case z1 => omega
  case s1 => exact rfl
  case t1 => intro _; rfl
  clear F2 N2
  intro Da wa ha Fa Na la hIa
  k_steps
  refine Hold.of ?_
  rename Fr _ _ _ _ => F1
  rename News _ _ _ _ => N1
  refine' slice_from (k := List.length _) F1 N1 (News.isList N1 (.tail _ xOwn)) (IntsAre.cons _ _ (.cons _ _ (.cons _ _ (.cons _ _ (.cons _ _ (.cons _ _ .nil)))))) rfl ?z2 ?_ ?s2 ?t2
  case z2 => decide
  case s2 => exact rfl
  case t2 => intro _; rfl
  clear F1 N1
  intro Db wb hb Fb Nb lb hIb
  k_steps
  rename Fr _ _ _ _ => F1
  rename News _ _ _ _ => N1
  rename IntsAre _ (List.take _ _ ++ List.drop _ _) => hIn
  obtain ⟨nums, hnum⟩ : ∃ nums, List.take 6 ns ++ List.drop ns.length [11, 12, 13, 8, 9, 15] = nums := ⟨_, rfl⟩
  rw [hnum] at hIn
  have hnl : nums.length = 6 := by
    rw [← hnum, List.length_append, List.length_take, List.length_drop]
    clear hIn N1 F1 lb la hIa hIb
    simp only [List.length_cons, List.length_nil]
    omega
  refine store_cell F1 N1 (.tail _ (.tail _ (.tail _ xNum))) dNum rfl ?_
  intro h2 oNum2 X2 F2 N2 xNum2 dNum2 kc
  have xNms := kc _ _ (.head _) (.inl rfl)
  replace xCut := kc _ _ (.tail _ (.tail _ (.tail _ xCut))) (.inr (cell_ne (a := s₁.heap.objs.size) (k := 6) (l := 1) (by decide)))
  replace xBeg := kc _ _ (.tail _ (.tail _ (.tail _ xBeg))) (.inr (cell_ne (a := s₁.heap.objs.size) (k := 5) (l := 1) (by decide)))
  replace xAll := kc _ _ (.tail _ (.tail _ (.tail _ xAll))) (.inr (cell_ne (a := s₁.heap.objs.size) (k := 4) (l := 1) (by decide)))
  replace xSpe := kc _ _ (.tail _ (.tail _ (.tail _ xSpe))) (.inr (cell_ne (a := s₁.heap.objs.size) (k := 3) (l := 1) (by decide)))
  replace xRow := kc _ _ (.tail _ (.tail _ (.tail _ xRow))) (.inr (cell_ne (a := s₁.heap.objs.size) (k := 2) (l := 1) (by decide)))
  clear F1 N1 kc xNum dNum xOwn mOwn mScr la lb hIa hIb hnum
  k_steps
  refine Hold.of ?_
  refine' assigncomp_ints (fun n y => ∃ t, y = .int (n.fmod 16) t) (fun _ => true) ?c1 ?c2 ?c3 ?c4 ?c5 ?c6 ?c7 ?c8 ?c9 ?_
  case c1 => with_unfolding_all rfl
  case c2 => with_unfolding_all rfl
  case c3 => decide
  case c4 => rfl
  case c5 => decide
  case c6 => rfl
  case c7 => rfl
  case c8 => rfl
  case c9 => intro _; rfl
  k_steps
  refine Hold.of ?_
  rename Fr _ _ _ _ => F1
  rename News _ _ _ _ => N1
  refine' slice_to (k := 5) F1 N1 (News.isList N1 xNms) hIn rfl ?z3 ?_ ?s3 ?t3
  case z3 => rw [hnl]; decide
  case s3 => exact rfl
  case t3 => intro _; rfl
  clear F1 N1
  intro Dc wc hc Fc Nc lc hIc
  k_steps
  refine Hold.of ⟨_, _, _, _, src_list rfl (News.isList Nc (.head _)) hIc, by rw [List.length_take, hnl]; decide, Fc, Nc, ctests_none, ?_, ?_⟩
  · intro C n t s₃ m₃ E' hn _ hC hns hm hst
    have FC : Fr _ C s₃.heap m₃ := ⟨hns, hst, Nat.le_of_lt hC⟩
    clear Fc Nc
    k_steps
    all_goals first | k_data | (refine Hold.of ?_; exact ⟨⟨_, rfl⟩, _, _, rfl, fun _ _ e => e⟩)
  intro Df hf tkf wf nf Ff Nf hnef hPf
  have hIf := paired_ints hPf
  rw [List.filter_eq_self.mpr (fun _ _ => rfl)] at hIf
  obtain ⟨figs, hfigs⟩ : ∃ figs, List.map (fun n : Int => n.fmod 16) (List.take 5 nums) = figs := ⟨_, rfl⟩
  rw [hfigs] at hIf
  have hfl : figs.length = 5 := by rw [← hfigs, List.length_map, List.length_take, hnl]; rfl
  have hfb : ∀ n ∈ figs, 0 ≤ n ∧ n < 16 := by
    intro n hn
    rw [← hfigs] at hn
    obtain ⟨x, _, rfl⟩ := List.mem_map.mp hn
    exact ⟨Int.fmod_nonneg_of_pos _ (by decide), Int.fmod_lt_of_pos _ (by decide)⟩
  have C0 := And.intro (Cx.mk (mean := ExcName.means _) (k := 80) (outer := []) (A := callerA) (by assumption) (by assumption) (below_caller _) rfl (by decide) (by decide)) trivial
  obtain ⟨m3, X3, F3, N3, km, kx⟩ := pack Ff Nf
  have mFig := km (Str.ofString "figures") _ rfl
  replace xFig := kx _ (.head _)
  replace xNms := kx _ (.tail _ (.tail _ xNms))
  replace xNum2 := kx _ (.tail _ (.tail _ xNum2))
  replace xCut := kx _ (.tail _ (.tail _ xCut))
  replace xBeg := kx _ (.tail _ (.tail _ xBeg))
  replace xAll := kx _ (.tail _ (.tail _ xAll))
  replace xSpe := kx _ (.tail _ (.tail _ xSpe))
  replace xRow := kx _ (.tail _ (.tail _ xRow))
  clear km kx Ff Nf Fc Nc lc hIc hPf hnef hfigs
  k_steps
  refine Hold.of ?_
  rename Fr _ _ _ _ => F1
  rename News _ _ _ _ => N1
  refine wpAny_call (row_spec (C0.1.deeper F1 rfl rfl) (News.isList N1 xFig) hIf (by rw [hfl]; decide) hfb ?_)
  intro Dr hr1 tkr vr nr str hnr er hIr
  have N2 := newsX F1 N1 str hnr er
  have F2 := Fr.keeps F1 str
  clear F1 N1 str hnr er
  dsimp only
  k_steps
  refine store_cell F2 N2 (.tail _ xRow) dRow rfl ?_
  intro h3 oRow2 X4 F3 N4 xRow2 dRow2 kc
  have xDr := kc _ _ (.head _) (.inl rfl)
  replace xNum2 := kc _ _ (.tail _ xNum2) (.inr (cell_ne (a := s₁.heap.objs.size) (k := 1) (l := 2) (by decide)))
  replace xCut := kc _ _ (.tail _ xCut) (.inr (cell_ne (a := s₁.heap.objs.size) (k := 6) (l := 2) (by decide)))
  replace xBeg := kc _ _ (.tail _ xBeg) (.inr (cell_ne (a := s₁.heap.objs.size) (k := 5) (l := 2) (by decide)))
  replace xAll := kc _ _ (.tail _ xAll) (.inr (cell_ne (a := s₁.heap.objs.size) (k := 4) (l := 2) (by decide)))
  replace xSpe := kc _ _ (.tail _ xSpe) (.inr (cell_ne (a := s₁.heap.objs.size) (k := 3) (l := 2) (by decide)))
  replace xNms := kc _ _ (.tail _ xNms) (.inl rfl)
  replace xFig := kc _ _ (.tail _ xFig) (.inl rfl)
  clear F2 N2 kc xRow dRow
  k_steps
  refine Hold.of ?_
  rename Fr _ _ _ _ => F1
  rename News _ _ _ _ => N1
  refine wpAny_call (spelled_spec (C0.1.deeper F1 rfl rfl) ?_)
  intro Ds hs tks os kvs sts hns es hsm hos hfs
  have N2 := newsX F1 N1 sts hns es
  have F2 := Fr.keeps F1 sts
  clear F1 N1 sts hns es
  dsimp only
  k_steps
  refine store_cell F2 N2 (.tail _ xSpe) dSpe rfl ?_
  intro h4 oSpe2 X5 F3 N5 xSpe2 dSpe2 kc
  have xDs := kc _ _ (.head _) (.inl (by obtain ⟨_, _, _, e, _⟩ := hos; unfold isCellB0; rw [e]))
  replace xNum2 := kc _ _ (.tail _ xNum2) (.inr (cell_ne (a := s₁.heap.objs.size) (k := 1) (l := 3) (by decide)))
  replace xRow2 := kc _ _ (.tail _ xRow2) (.inr (cell_ne (a := s₁.heap.objs.size) (k := 2) (l := 3) (by decide)))
  replace xCut := kc _ _ (.tail _ xCut) (.inr (cell_ne (a := s₁.heap.objs.size) (k := 6) (l := 3) (by decide)))
  replace xBeg := kc _ _ (.tail _ xBeg) (.inr (cell_ne (a := s₁.heap.objs.size) (k := 5) (l := 3) (by decide)))
  replace xAll := kc _ _ (.tail _ xAll) (.inr (cell_ne (a := s₁.heap.objs.size) (k := 4) (l := 3) (by decide)))
  replace xNms := kc _ _ (.tail _ xNms) (.inl rfl)
  replace xFig := kc _ _ (.tail _ xFig) (.inl rfl)
  replace xDr := kc _ _ (.tail _ xDr) (.inl rfl)
  clear F2 N2 kc xSpe dSpe
  k_steps
  refine Hold.of ?_
  rename Fr _ _ _ _ => F1
  rename News _ _ _ _ => N1
  refine wpAny_call (text_spec (C0.1.deeper F1 rfl rfl) (News.isList N1 xFig) hIf (by rw [hfl]; decide) hfb (TabAt.ofObj hsm (N1 (Ds, os) xDs).1 hos hfs) ?_)
  intro ht tkt tokt stt
  have F2 := Fr.keeps F1 stt
  have N2 := News.keeps N1 stt
  clear F1 N1 stt
  dsimp only
  k_steps
  refine Hold.of ?_
  rename Fr _ _ _ _ => F1
  rename News _ _ _ _ => N1
  obtain ⟨m6, X6, F2, N2, km, kx⟩ := pack F1 N1
  have mText := km (Str.ofString "text") _ rfl
  replace xNms := kx _ xNms
  replace xDr := kx _ xDr
  replace xDs := kx _ xDs
  replace xNum2 := kx _ xNum2
  replace xRow2 := kx _ xRow2
  replace xSpe2 := kx _ xSpe2
  replace xCut := kx _ xCut
  replace xBeg := kx _ xBeg
  replace xAll := kx _ xAll
  clear km kx F1 N1 xFig mFig hIf
  have hrb : ∀ n ∈ rowF figs, 0 ≤ n ∧ n < 9 := row_bound hfb
  have hrl : (rowF figs).length ≤ 10 := row_short hfl
  refine' listcomp_ints (fun n y => ∃ t, y = .str (sgn n) t) (fun _ => true) ?d1 ?d2 ?d3 ?d4 ?d5 ?d6 ?_
  case d1 => with_unfolding_all rfl
  case d2 => decide
  case d3 => rfl
  case d4 => decide
  case d5 => rfl
  case d6 => intro _; rfl
  k_steps
  refine Hold.of ?_
  rename Fr _ _ _ _ => F1
  rename News _ _ _ _ => N1
  refine ⟨_, _, _, _, src_list rfl (News.isList N1 xDr) hIr, Nat.le_trans hrl (by decide), F1, N1, ctests_none, ?_, ?_⟩
  · intro C n t s₃ m₃ E' hn _ hC hns hm hst
    have FC : Fr _ C s₃.heap m₃ := ⟨hns, hst, Nat.le_of_lt hC⟩
    obtain ⟨hb1, hb2⟩ := hrb n hn
    clear F1 N1 hn
    k_steps
    all_goals first | k_data | (refine Hold.of ?_; exact ⟨⟨_, rfl⟩, _, _, rfl, fun _ _ e => e⟩) | trace_state
  clear F1 N1
  intro Dj hj tkj wj nj Fj Nj hnej hPj
  have hIj := paired_strs hPj
  rw [List.filter_eq_self.mpr (fun _ _ => rfl)] at hIj
  k_steps
  refine Hold.of ?_
  refine join_listW (News.isList Nj (.head _)) hIj (by decide +kernel) (by
    rw [List.length_map]
    exact Nat.le_trans (Nat.add_le_add_right (Nat.le_of_eq (sum_sgn (rowF figs))) _) (by omega)) ?_
  intro tj kj
  have hjoin : Txt.join (Str.ofString "") (List.map sgn (rowF figs)) = textF figs := (join_row hrb).trans (text_row hfb).symm
  rw [hjoin]
  obtain ⟨m7, X7, F1, N1, km, kx⟩ := pack Fj Nj
  replace mText := km (Str.ofString "text") _ mText
  replace xNms := kx _ (.tail _ xNms)
  replace xDr := kx _ (.tail _ xDr)
  replace xDs := kx _ (.tail _ xDs)
  replace xNum2 := kx _ (.tail _ xNum2)
  replace xRow2 := kx _ (.tail _ xRow2)
  replace xSpe2 := kx _ (.tail _ xSpe2)
  replace xCut := kx _ (.tail _ xCut)
  replace xBeg := kx _ (.tail _ xBeg)
  replace xAll := kx _ (.tail _ xAll)
  clear km kx Fj Nj hnej hPj hIj hjoin
  k_steps
  rename_i zz1 zz2 zz3 zz4 zz5 D' ws' zz6 zz7 zz8 zz9
  clear zz1 h₁ tk₁ oSpe oRow oNum zz2 zz3 zz4 dSpe dRow dNum l' h' h'' zz5 m1 X1 Da wa ha Db wb hb zz6 zz7 h2 X2 Dc wc hc Df hf tkf wf nf m3 X3 hr1 tkr h3 X4 tks h4 X5 ht tkt zz8 tk m6 X6 Dj tkj wj nj tj zz9
  as_aux_lemma =>
   refine Hold.of ?_
   refine' assigncomp_ints (fun n y => ∃ t, y = .int n t) (kbit (nums.getD 5 0)) ?e1 ?e2 ?e3 ?e4 ?e5 ?e6 ?e7 ?e8 ?e9 ?_
   case e1 => with_unfolding_all rfl
   case e2 => with_unfolding_all rfl
   case e3 => decide
   case e4 => rfl
   case e5 => decide
   case e6 => rfl
   case e7 => rfl
   case e8 => rfl
   case e9 => intro _; rfl
   k_steps
   refine Hold.of ?_
   rename Fr _ _ _ _ => F0
   rename News _ _ _ _ => N0
   refine tuple_N F0 N0 (by simp) ?_
   intro DT hT FT NT lT
   clear F0 N0 lT
   k_steps
   refine Hold.of ?_
   rename Fr _ _ _ _ => F1
   rename News _ _ _ _ => N1
   refine ⟨[0, 2, 4], _, _, _, src_tuple rfl ⟨_, (N1 _ (.head _)).1, rfl, 0, rfl⟩ (.cons _ _ (.cons _ _ (.cons _ _ .nil))), by decide, F1, N1, ctests_one ?_, ?_, ?_⟩
   · intro C n t s₃ m₃ E' hn hC hns hm hst
     have FC : Fr _ C s₃.heap m₃ := ⟨hns, hst, Nat.le_of_lt hC⟩
     clear F1
     k_steps
     refine Hold.of ?_
     refine' nameC N1 hst rfl rfl rfl ?n4 ?n5 ?n6 ?_
     case n4 => exact .tail _ xNum2
     case n5 => assumption
     case n6 => decide
     have hln := (News.isList N1 (.tail _ xNms)).at fun o e => hst _ _ e
     clear N1
     k_steps
     refine Hold.of ?_
     obtain ⟨t5, h5⟩ := IntsAre.get hIn 5 (nums.getD 5 0) (by rw [List.getD_eq_getElem?_getD, List.getElem?_eq_getElem (by rw [hnl]; decide)]; rfl)
     refine item_at hln rfl h5 (by decide) ?_ rfl
     clear hln h5 hC
     rcases List.mem_cons.mp hn with rfl | hn
     · k_steps
       refine Hold.of ?_
       exact ⟨rfl, _, _, rfl, fun _ _ e => e⟩
     rcases List.mem_cons.mp hn with rfl | hn
     · k_steps
       refine Hold.of ?_
       exact ⟨rfl, _, _, rfl, fun _ _ e => e⟩
     rcases List.mem_cons.mp hn with rfl | hn
     · k_steps
       refine Hold.of ?_
       exact ⟨rfl, _, _, rfl, fun _ _ e => e⟩
     · cases hn
   · intro C n t s₃ m₃ E' hn _ hC hns hm hst
     have FC : Fr _ C s₃.heap m₃ := ⟨hns, hst, Nat.le_of_lt hC⟩
     clear F1 N1 FC
     k_steps
     refine Hold.of ?_; exact ⟨⟨_, rfl⟩, _, _, rfl, fun _ _ e => e⟩
   clear F1 N1
   intro Dk hk tkk wk nk Fk Nk hnek hPk
   have hIk := paired_ints hPk
   rw [List.map_id'' (fun _ => rfl)] at hIk
   obtain ⟨kn, hkn⟩ : ∃ kn, [(0 : Int), 2, 4].filter (kbit (nums.getD 5 0)) = kn := ⟨_, rfl⟩
   have hkm : ∀ n ∈ kn, n = 0 ∨ n = 2 ∨ n = 4 := fun n hn => kinds_mem (hkn ▸ hn)
   have hkl : kn.length ≤ 3 := by rw [← hkn]; exact List.length_filter_le _ _
   rw [hkn] at hIk
   obtain ⟨m8, X8, F1, N1, km, kx⟩ := pack Fk Nk
   have mKin := km (Str.ofString "kinds") _ rfl
   replace mText := km (Str.ofString "text") _ mText
   have xKin := kx _ (.head _)
   replace xNms := kx _ (.tail _ (.tail _ xNms))
   replace xDr := kx _ (.tail _ (.tail _ xDr))
   replace xDs := kx _ (.tail _ (.tail _ xDs))
   replace xNum2 := kx _ (.tail _ (.tail _ xNum2))
   replace xRow2 := kx _ (.tail _ (.tail _ xRow2))
   replace xSpe2 := kx _ (.tail _ (.tail _ xSpe2))
   replace xCut := kx _ (.tail _ (.tail _ xCut))
   replace xBeg := kx _ (.tail _ (.tail _ xBeg))
   replace xAll := kx _ (.tail _ (.tail _ xAll))
   clear km kx Fk Nk hnek hPk hkn
   k_steps
   refine Hold.of ?_
   refine' assigncomp_ints (fun n y => ∃ t, y = .int (opn n) t) (fun _ => true) ?e1 ?e2 ?e3 ?e4 ?e5 ?e6 ?e7 ?e8 ?e9 ?_
   case e1 => with_unfolding_all rfl
   case e2 => with_unfolding_all rfl
   case e3 => decide
   case e4 => rfl
   case e5 => decide
   case e6 => rfl
   case e7 => rfl
   case e8 => rfl
   case e9 => intro _; rfl
   k_steps
   refine Hold.of ?_
   rename Fr _ _ _ _ => F1
   rename News _ _ _ _ => N1
   refine ⟨kn, _, _, _, src_list rfl (News.isList N1 xKin) hIk, Nat.le_trans hkl (by decide), F1, N1, ctests_none, ?_, ?_⟩
   · intro C n t s₃ m₃ E' hn _ hC hns hm hst
     have FC : Fr _ C s₃.heap m₃ := ⟨hns, hst, Nat.le_of_lt hC⟩
     clear F1 N1
     k_steps
     refine Hold.of ?_
     refine tuple_H (by simp) ?_
     intro TT hTT stT isT
     have hns' := hns.at fun o e => stT _ _ e
     clear FC
     rcases hkm n hn with rfl | rfl | rfl
     all_goals (
       k_steps
       refine Hold.of ?_
       refine' item_tupleT (j := _) isT ?i1 ?i2 ?i3 ?i4 ?_ ?i5
       case i1 => decide
       case i2 => decide
       case i3 => rfl
       case i4 => rfl
       case i5 => with_unfolding_all rfl
       k_steps
       refine Hold.of ?_
       exact ⟨⟨_, rfl⟩, _, _, rfl, stT⟩)
   clear F1 N1
   intro Do ho2 tko wo no Fo No hneo hPo
   have hIo := paired_ints hPo
   rw [List.filter_eq_self.mpr (fun _ _ => rfl)] at hIo
   obtain ⟨ops, hops⟩ : ∃ ops, List.map opn kn = ops := ⟨_, rfl⟩
   rw [hops] at hIo
   have hom : ∀ n ∈ ops, n = 7 ∨ n = 9 ∨ n = 25 := by
     intro n hn
     rw [← hops] at hn
     obtain ⟨k, hk1, rfl⟩ := List.mem_map.mp hn
     rcases hkm k hk1 with rfl | rfl | rfl
     · exact .inl rfl
     · exact .inr (.inl rfl)
     · exact .inr (.inr rfl)
   have hol : ops.length ≤ 3 := by rw [← hops, List.length_map]; exact hkl
   obtain ⟨m9, X9, F1, N1, km, kx⟩ := pack Fo No
   have mOpe := km (Str.ofString "openers") _ rfl
   replace mKin := km (Str.ofString "kinds") _ mKin
   replace mText := km (Str.ofString "text") _ mText
   have xOpe := kx _ (.head _)
   replace xKin := kx _ (.tail _ xKin)
   replace xNms := kx _ (.tail _ xNms)
   replace xDr := kx _ (.tail _ xDr)
   replace xDs := kx _ (.tail _ xDs)
   replace xNum2 := kx _ (.tail _ xNum2)
   replace xRow2 := kx _ (.tail _ xRow2)
   replace xSpe2 := kx _ (.tail _ xSpe2)
   replace xCut := kx _ (.tail _ xCut)
   replace xBeg := kx _ (.tail _ xBeg)
   replace xAll := kx _ (.tail _ xAll)
   clear km kx Fo No hneo hPo
   k_steps
   refine Hold.of ?_
   refine' listcomp_ints (fun n y => ∃ t, y = .str (pairS n) t) (fun _ => true) ?d1 ?d2 ?d3 ?d4 ?d5 ?d6 ?_
   case d1 => with_unfolding_all rfl
   case d2 => decide
   case d3 => rfl
   case d4 => decide
   case d5 => rfl
   case d6 => intro _; rfl
   k_steps
   refine Hold.of ?_
   rename Fr _ _ _ _ => F1
   rename News _ _ _ _ => N1
   refine ⟨_, _, _, _, src_list rfl (News.isList N1 (.tail _ xOpe)) hIo, Nat.le_trans hol (by decide), F1, N1, ctests_none, ?_, ?_⟩
   · intro C n t s₃ m₃ E' hn _ hC hns hm hst
     have T3 : IntTab PG w s₃.heap Ds SPD := TabAt.ofObj hsm (hst _ _ (N1 (Ds, os) (.tail _ xDs)).1) hos hfs
     have ho := hom n hn
     have hl1 := (sps_len n).1
     have hl2 := (sps_len n).2
     clear F1
     k_steps
     refine Hold.of ?_
     refine' nameC N1 hst rfl rfl rfl ?n4 ?n5 ?n6 ?_
     case n4 => exact .tail _ xSpe2
     case n5 => assumption
     case n6 => decide
     k_steps
     refine Hold.of ?_
     refine' item_sp T3 (spO ho) ?_ ?hs ?hg
     case hs => with_unfolding_all rfl
     case hg => intro _; with_unfolding_all rfl
     intro tq1
     k_steps
     refine Hold.of ?_
     refine' nameC N1 hst rfl rfl rfl ?n4 ?n5 ?n6 ?_
     case n4 => exact .tail _ xSpe2
     case n5 => assumption
     case n6 => decide
     k_steps
     refine Hold.of ?_
     refine' item_sp T3 (spC ho) ?_ ?hs ?hg
     case hs => with_unfolding_all rfl
     case hg => intro _; with_unfolding_all rfl
     intro tq2
     k_steps
     refine Hold.of ?_
     exact ⟨⟨_, rfl⟩, _, _, rfl, fun _ _ e => e⟩
   clear F1 N1
   intro Dp hp tkp wp np Fp Np hnep hPp
   have hIp := paired_strs hPp
   rw [List.filter_eq_self.mpr (fun _ _ => rfl)] at hIp
   k_steps
   rename Fr _ _ _ _ => F1
   rename News _ _ _ _ => N1
   refine addl_strs F1 N1 (News.isList N1 (.tail _ (.head _))) (News.isList N1 (.head _)) (.cons _ _ .nil) hIp (by rw [List.length_map, List.length_singleton]; omega) ?_
   intro Dag hag wag Fag Nag lag hIag
   clear F1 N1
   k_steps
   refine Hold.of ?_
   refine wpAny_call (record_spec (C0.1.deeper Fag rfl rfl) (Nag _ (.head _)).1 hIag (by rw [List.length_append, List.length_map, List.length_singleton]; omega) (by
     intro a ha
     rcases List.mem_append.mp ha with ha | ha
     · rw [List.mem_singleton.mp ha]; decide +kernel
     · obtain ⟨n, _, rfl⟩ := List.mem_map.mp ha
       exact pairS_len n) ?_)
   intro xB hB1 tkB nfB stB hnB EB hBc
   have FB := Fr.keeps Fag stB
   have NB := grow_list Fag Nag stB hnB
   obtain ⟨m10, X10, F1, N1, km, kx⟩ := pack FB NB
   replace mKin := km (Str.ofString "kinds") _ mKin
   replace mText := km (Str.ofString "text") _ mText
   replace xKin := kx _ (List.mem_append_left _ (.tail _ (.tail _ (.tail _ xKin))))
   replace xNms := kx _ (List.mem_append_left _ (.tail _ (.tail _ (.tail _ xNms))))
   replace xDr := kx _ (List.mem_append_left _ (.tail _ (.tail _ (.tail _ xDr))))
   replace xNum2 := kx _ (List.mem_append_left _ (.tail _ (.tail _ (.tail _ xNum2))))
   replace xRow2 := kx _ (List.mem_append_left _ (.tail _ (.tail _ (.tail _ xRow2))))
   replace xCut := kx _ (List.mem_append_left _ (.tail _ (.tail _ (.tail _ xCut))))
   replace xBeg := kx _ (List.mem_append_left _ (.tail _ (.tail _ (.tail _ xBeg))))
   replace xAll := kx _ (List.mem_append_left _ (.tail _ (.tail _ (.tail _ xAll))))
   have hBr : ∀ p ∈ nfB, p ∈ X10 := fun p hp => kx _ (List.mem_append_right _ hp)
   clear km kx FB NB Fag Nag lag hIag hnep hPp hIp stB hnB xOpe xDs xSpe2 mOpe
   subst hops
   clear hIo hom hol
   dsimp only
   k_steps
   refine Hold.of ?_
   rename Fr _ _ _ _ => F2
   rename News _ _ _ _ => N2
   obtain ⟨t5, h5⟩ := IntsAre.get hIn 5 (nums.getD 5 0) (by rw [List.getD_eq_getElem?_getD, List.getElem?_eq_getElem (by rw [hnl]; decide)]; rfl)
   refine item_at (News.isList N2 xNms) rfl h5 (by decide) ?_ rfl
   k_steps
   rename Fr _ _ _ _ => F1
   rename News _ _ _ _ => N1
   obtain ⟨al, hae⟩ : ∃ al : Bool, (((nums.getD 5 0).fdiv 8).fmod 2 == 1) = al := ⟨_, rfl⟩
   rw [hae]
   refine store_cell F1 N1 xAll dAll rfl ?_
   intro h5a oAll2 X11 F2 N2 xAll2 dAll2 kc
   replace xRow2 := kc _ _ xRow2 (.inr (cell_ne (a := s₁.heap.objs.size) (k := 2) (l := 4) (by decide)))
   replace xCut := kc _ _ xCut (.inr (cell_ne (a := s₁.heap.objs.size) (k := 6) (l := 4) (by decide)))
   replace xBeg := kc _ _ xBeg (.inr (cell_ne (a := s₁.heap.objs.size) (k := 5) (l := 4) (by decide)))
   replace xKin := kc _ _ xKin (.inl rfl)
   replace xDr := kc _ _ xDr (.inl rfl)
   replace hBr : ∀ p ∈ nfB, p ∈ X11 := fun p hp => kc _ _ (hBr p hp) (.inl (by simpa using List.all_eq_true.mp hBc p hp))
   clear F1 N1 kc xAll dAll xNms xNum2 hIn h5 hae hnl
   obtain ⟨m11, Xq, F1, _, km, _⟩ := pack F2 N2
   have mBar := km (Str.ofString "barred") _ rfl
   replace mKin := km (Str.ofString "kinds") _ mKin
   replace mText := km (Str.ofString "text") _ mText
   clear km F2
   k_steps
   rename_i zz1 zz2 zz3 zz4 zz5 zz6 zz7
   clear oAll D' ws' nums oNum2 dNum2 Ds hs os kvs hsm hos hfs oSpe2 dSpe2 hj kj m7 X7 DT hT hk tkk m8 X8 Do ho2 tko wo no m9 X9 zz1 zz2 zz3 Dp hp tkp wp np Dag hag wag hB1 tkB m10 X10 zz4 N1 zz5 t5 Xq zz6 zz7
   as_aux_lemma =>
    refine Hold.of ?_
    refine ifexp_jn X11 (freeR al) F1 ?_ ?_
    · refine IfExp_ ?_
      have N2s := And.intro N2 trivial
      k_steps
      · rename al = true => hal1
        rename Fr _ _ _ _ => Fe
        rename News _ _ _ _ => Ne
        refine Hold.of ?_
        refine wpAny_call (record_spec (C0.1.deeper Fe rfl rfl) (Ne _ (.head _)).1 (.cons _ _ .nil) (by decide) (by
          intro a ha
          rw [List.mem_singleton.mp ha]; decide +kernel) ?_)
        intro x hx tkx nf stx hnx E hc
        have Nx := grow_list Fe Ne stx hnx
        dsimp only
        refine Hold.of ⟨x, _, _, nf, rfl, rfl, Fr.keeps Fe stx, fun p hp => ?_, ?_, hc⟩
        · rcases List.mem_append.mp hp with hp | hp
          · exact Nx p (List.mem_append_right _ hp)
          · exact Nx p (List.mem_append_left _ (.tail _ hp))
        · rw [show freeR al = [([Str.ofString "!"], true)] by rw [hal1]; rfl]
          exact E
      · rename al = false => hal1
        rename Fr _ _ _ _ => Fe
        rename News _ _ _ _ => Ne
        refine Hold.of ⟨_, _, _, [_, _, _, _], rfl, rfl, Fe, Ne, ?_, rfl⟩
        rw [show freeR al = [] by rw [hal1]; rfl]
        exact entL_bare (fun p hp => Ne p (List.mem_append_left X11 hp)) (.tail _ (.tail _ (.head _))) (.tail _ (.tail _ (.tail _ (.head _)))) (by rfl) (by rfl) (by rfl) (by rfl) (.tail _ (.head _)) (.head _)
    intro xF hF tkF nfF FF NF EF hFc
    clear F1 N2
    k_steps
    rename Fr _ _ _ _ => F2
    rename News _ _ _ _ => N2
    refine Hold.of ?_
    obtain ⟨m12, X12, F1, N1, km, kx⟩ := pack F2 N2
    have mFre := km (Str.ofString "freed") _ rfl
    replace mBar := km (Str.ofString "barred") _ mBar
    replace mKin := km (Str.ofString "kinds") _ mKin
    replace mText := km (Str.ofString "text") _ mText
    replace xKin := kx _ (List.mem_append_right _ xKin)
    replace xDr := kx _ (List.mem_append_right _ xDr)
    replace xRow2 := kx _ (List.mem_append_right _ xRow2)
    replace xCut := kx _ (List.mem_append_right _ xCut)
    replace xBeg := kx _ (List.mem_append_right _ xBeg)
    replace xAll2 := kx _ (List.mem_append_right _ xAll2)
    have hFr : ∀ p ∈ nfF, p ∈ X12 := fun p hp => kx _ (List.mem_append_left _ hp)
    replace hBr : ∀ p ∈ nfB, p ∈ X12 := fun p hp => kx _ (List.mem_append_right _ (hBr p hp))
    clear km kx F2 N2
    obtain ⟨rs, hrs⟩ : ∃ rs, rowF figs = rs := ⟨_, rfl⟩
    rw [hrs] at hrb hrl hIr
    refine' listcomp_ints (fun n y => ∃ t, y = .int n t) (cutP rs) ?d1 ?d2 ?d3 ?d4 ?d5 ?d6 ?_
    case d1 => with_unfolding_all rfl
    case d2 => decide
    case d3 => rfl
    case d4 => decide
    case d5 => rfl
    case d6 => intro _; rfl
    have hvl := hIr.length
    k_steps
    refine Hold.of ?_
    rename Fr _ _ _ _ => F1
    rename News _ _ _ _ => N1
    rename IsRange _ _ _ _ _ _ _ _ => hrg
    refine ⟨_, _, _, _, src_range (n := rs.length) rfl hrg (small_up (a := 0) (by omega) (by omega)) (rangeSize_up (by split <;> omega)), by rw [List.length_map, List.length_range]; omega, F1, N1, ctests_one ?_, ?_, ?_⟩
    · intro C n t s₃ m₃ E' hn hC hns hm hst
      obtain ⟨i, hi, rfl⟩ := range_mem hn
      have hlr : s₃.heap.IsList Dr (List.toArray vr) := (News.isList N1 xDr).at fun o e => hst _ _ e
      obtain ⟨ti, hti⟩ := IntsAre.get hIr i (rs.getD i 0) (by rw [List.getD_eq_getElem?_getD, List.getElem?_eq_getElem hi]; rfl)
      clear F1 hn hC
      k_steps
      refine Hold.of ?_
      refine' nameC N1 hst rfl rfl rfl ?n4 ?n5 ?n6 ?_
      case n4 => exact xRow2
      case n5 => assumption
      case n6 => decide
      clear N1
      k_steps
      refine Hold.of ?_
      refine item_at hlr rfl hti (by omega) ?_ rfl
      k_steps
      refine Hold.of ?_
      exact ⟨rfl, _, _, rfl, fun _ _ e => e⟩
    · intro C n t s₃ m₃ E' hn _ hC hns hm hst
      clear F1 N1
      k_steps
      refine Hold.of ?_
      exact ⟨⟨_, rfl⟩, _, _, rfl, fun _ _ e => e⟩
    clear F1 N1
    intro Dc1 hc1 tkc1 wc1 nc1 Fc1 Nc1 hnec1 hPc1
    have hIc1 := paired_ints hPc1
    rw [List.map_id'' (fun _ => rfl)] at hIc1
    have hcl0 : (List.filter (cutP rs) (List.map (fun i : Nat => (0 : Int) + (i : Int)) (List.range rs.length))).length ≤ 10 := by
      refine Nat.le_trans (List.length_filter_le _ _) ?_
      rw [List.length_map, List.length_range]; exact hrl
    k_steps
    refine Hold.of ?_
    rename Fr _ _ _ _ => F2
    rename News _ _ _ _ => N2
    rename IntsAre _ (List.filter (cutP rs) _ ++ _) => hIcu
    obtain ⟨m13, X13, F1, N1, km, kx⟩ := pack F2 N2
    have mCuts := km (Str.ofString "cuts") _ rfl
    replace mFre := km (Str.ofString "freed") _ mFre
    replace mBar := km (Str.ofString "barred") _ mBar
    replace mKin := km (Str.ofString "kinds") _ mKin
    replace mText := km (Str.ofString "text") _ mText
    have xCuts := kx _ (.head _)
    replace xKin := kx _ (.tail _ (.tail _ (.tail _ xKin)))
    replace xDr := kx _ (.tail _ (.tail _ (.tail _ xDr)))
    replace xRow2 := kx _ (.tail _ (.tail _ (.tail _ xRow2)))
    replace xCut := kx _ (.tail _ (.tail _ (.tail _ xCut)))
    replace xBeg := kx _ (.tail _ (.tail _ (.tail _ xBeg)))
    replace xAll2 := kx _ (.tail _ (.tail _ (.tail _ xAll2)))
    replace hFr : ∀ p ∈ nfF, p ∈ X13 := fun p hp => kx _ (.tail _ (.tail _ (.tail _ (hFr p hp))))
    replace hBr : ∀ p ∈ nfB, p ∈ X13 := fun p hp => kx _ (.tail _ (.tail _ (.tail _ (hBr p hp))))
    clear km kx F2 N2 hnec1 hPc1 hIc1 hcl0
    refine' assigncomp_ints (fun n y => ∃ t, y = .int n t) (markP rs al) ?e1 ?e2 ?e3 ?e4 ?e5 ?e6 ?e7 ?e8 ?e9 ?_
    case e1 => with_unfolding_all rfl
    case e2 => with_unfolding_all rfl
    case e3 => decide
    case e4 => rfl
    case e5 => decide
    case e6 => rfl
    case e7 => rfl
    case e8 => rfl
    case e9 => intro _; rfl
    k_steps
    refine Hold.of ?_
    rename Fr _ _ _ _ => F1
    rename News _ _ _ _ => N1
    rename IsRange _ _ _ _ _ _ _ _ => hrg
    refine ⟨_, _, _, _, src_range (n := rs.length) rfl hrg (small_up (a := 0) (by omega) (by omega)) (rangeSize_up (by split <;> omega)), by rw [List.length_map, List.length_range]; omega, F1, N1, ctests_one ?_, ?_, ?_⟩
    · intro C n t s₃ m₃ E' hn hC hns hm hst
      obtain ⟨i, hi, rfl⟩ := range_mem hn
      have hlr : s₃.heap.IsList Dr (List.toArray vr) := (News.isList N1 xDr).at fun o e => hst _ _ e
      obtain ⟨ti, hti⟩ := IntsAre.get hIr i (rs.getD i 0) (by rw [List.getD_eq_getElem?_getD, List.getElem?_eq_getElem hi]; rfl)
      clear F1 hn hC
      have hmk : markP rs al (i : Int) = ((rs.getD i 0 == 6) && al) := rfl
      rw [hmk]
      k_steps
      refine Hold.of ?_
      refine' nameC N1 hst rfl rfl rfl ?n4 ?n5 ?n6 ?_
      case n4 => exact xRow2
      case n5 => assumption
      case n6 => decide
      k_steps
      refine Hold.of ?_
      refine item_at hlr rfl hti (by omega) ?_ rfl
      k_steps
      · refine Hold.of ?_
        refine' nameC N1 hst rfl rfl rfl ?n4 ?n5 ?n6 ?_
        case n4 => exact xAll2
        case n5 => assumption
        case n6 => decide
        k_steps
        all_goals (
          refine Hold.of ?_
          refine ⟨?_, _, _, rfl, fun _ _ e => e⟩
          first
            | (rename rs.getD i 0 = 6 => h6; rw [h6]; first | rfl | (rename al = true => h7; rw [h7]; rfl) | (rename al = false => h7; rw [h7]; rfl))
            | (rename (rs.getD i 0 == 6) = true => h6; rw [h6]; first | rfl | (rename al = true => h7; rw [h7]; rfl) | (rename al = false => h7; rw [h7]; rfl))
            | trace_state)
      · refine Hold.of ?_
        refine ⟨?_, _, _, rfl, fun _ _ e => e⟩
        first
          | (rename ¬ rs.getD i 0 = 6 => h6; rw [show (rs.getD i 0 == 6) = false from beq_eq_false_iff_ne.mpr h6]; rfl)
          | (rename (rs.getD i 0 == 6) = false => h6; rw [h6]; rfl)
          | trace_state
    · intro C n t s₃ m₃ E' hn _ hC hns hm hst
      clear F1 N1
      k_steps
      refine Hold.of ?_
      exact ⟨⟨_, rfl⟩, _, _, rfl, fun _ _ e => e⟩
    clear F1 N1
    intro Dm1 hm1 tkm1 wm1 nm1 Fm1 Nm1 hnem1 hPm1
    have hIm1 := paired_ints hPm1
    rw [List.map_id'' (fun _ => rfl)] at hIm1
    obtain ⟨cuts, hcuts⟩ : ∃ cuts, List.filter (cutP rs) (List.map (fun i : Nat => (0 : Int) + (i : Int)) (List.range rs.length)) ++ [(rs.length : Int)] = cuts := ⟨_, rfl⟩
    obtain ⟨marks, hmarks⟩ : ∃ marks, List.filter (markP rs al) (List.map (fun i : Nat => (0 : Int) + (i : Int)) (List.range rs.length)) = marks := ⟨_, rfl⟩
    rw [hcuts] at hIcu
    rw [hmarks] at hIm1
    have hcl : cuts.length ≤ 11 := by
      rw [← hcuts, List.length_append, List.length_singleton]
      exact Nat.succ_le_succ (Nat.le_trans (List.length_filter_le _ _) (by rw [List.length_map, List.length_range]; exact hrl))
    have hml : marks.length ≤ 10 := by
      rw [← hmarks]
      refine Nat.le_trans (List.length_filter_le _ _) ?_
      rw [List.length_map, List.length_range]; exact hrl
    have hc0 : 0 < cuts.length := by rw [← hcuts, List.length_append, List.length_singleton]; exact Nat.succ_pos _
    obtain ⟨m14, X14, F1, N1, km, kx⟩ := pack Fm1 Nm1
    have mMar := km (Str.ofString "marks") _ rfl
    replace mCuts := km (Str.ofString "cuts") _ mCuts
    replace mFre := km (Str.ofString "freed") _ mFre
    replace mBar := km (Str.ofString "barred") _ mBar
    replace mKin := km (Str.ofString "kinds") _ mKin
    replace mText := km (Str.ofString "text") _ mText
    have xMar := kx _ (.head _)
    replace xCuts := kx _ (.tail _ xCuts)
    replace xKin := kx _ (.tail _ xKin)
    replace xDr := kx _ (.tail _ xDr)
    replace xRow2 := kx _ (.tail _ xRow2)
    replace xCut := kx _ (.tail _ xCut)
    replace xBeg := kx _ (.tail _ xBeg)
    replace hFr : ∀ p ∈ nfF, p ∈ X14 := fun p hp => kx _ (.tail _ (hFr p hp))
    replace hBr : ∀ p ∈ nfB, p ∈ X14 := fun p hp => kx _ (.tail _ (hBr p hp))
    clear km kx Fm1 Nm1 hnem1 hPm1
    k_steps
    rename_i zz1 zz2 zz3 zz4 zz5 zz6 zz7 zz8 zz9 zz10 zz11 zz12 D' ws' zz13 zz14 zz15 zz16 zz17 zz18 zz19 zz20 zz21 zz22 zz23 zz24 zz25
    clear zz1 h5a oAll2 X11 dAll2 m11 hF tkF zz2 m12 X12 zz3 zz4 zz5 zz6 zz7 zz8 zz9 Dc1 hc1 tkc1 wc1 nc1 zz10 zz11 zz12 zz13 zz14 zz15 zz16 zz17 tk m13 X13 zz18 zz19 xAll2 zz20 zz21 zz22 zz23 zz24 hrg zz25
    as_aux_lemma =>
     refine Hold.of ?_
     obtain ⟨vsB, hBV⟩ := EB.atV
     obtain ⟨vsF, hFV⟩ := EF.atV
     have NB1 : News _ _ _ nfB := fun p hp => N1 p (hBr p hp)
     have NF1 : News _ _ _ nfF := fun p hp => N1 p (hFr p hp)
     refine wpAny_call (merge_spec3 (C0.1.deeper F1 rfl rfl) (hBV _ _ _ NB1) (hFV _ _ _ NF1) (by simp) (by unfold freeR; split <;> simp) ?_)
     intro Drec hre tkre nfR stR hnR hRL hRc
     have F2 := Fr.keeps F1 stR
     have N2 := grow_list F1 N1 stR hnR
     obtain ⟨m15, X15, F3, N3, km, kx⟩ := pack F2 N2
     replace mMar := km (Str.ofString "marks") _ mMar
     replace mCuts := km (Str.ofString "cuts") _ mCuts
     replace mFre := km (Str.ofString "freed") _ mFre
     replace mBar := km (Str.ofString "barred") _ mBar
     replace mKin := km (Str.ofString "kinds") _ mKin
     replace mText := km (Str.ofString "text") _ mText
     replace xMar := kx _ (List.mem_append_left _ xMar)
     replace xCuts := kx _ (List.mem_append_left _ xCuts)
     replace xKin := kx _ (List.mem_append_left _ xKin)
     replace xDr := kx _ (List.mem_append_left _ xDr)
     replace xRow2 := kx _ (List.mem_append_left _ xRow2)
     replace xCut := kx _ (List.mem_append_left _ xCut)
     replace xBeg := kx _ (List.mem_append_left _ xBeg)
     replace hBr : ∀ p ∈ nfB, p ∈ X15 := fun p hp => kx _ (List.mem_append_left _ (hBr p hp))
     replace hFr : ∀ p ∈ nfF, p ∈ X15 := fun p hp => kx _ (List.mem_append_left _ (hFr p hp))
     have hRr : ∀ p ∈ nfR, p ∈ X15 := fun p hp => kx _ (List.mem_append_right _ hp)
     clear km kx F2 N2 F1 N1 NB1 NF1 stR hnR hRc
     dsimp only
     walk1
     rename Fr _ _ _ _ => F2
     obtain ⟨m15b, F3, km⟩ := packF F2
     replace mMar := km (Str.ofString "marks") _ mMar
     replace mCuts := km (Str.ofString "cuts") _ mCuts
     replace mFre := km (Str.ofString "freed") _ mFre
     replace mBar := km (Str.ofString "barred") _ mBar
     replace mKin := km (Str.ofString "kinds") _ mKin
     replace mText := km (Str.ofString "text") _ mText
     have mRec := km (Str.ofString "record") _ rfl
     clear km F2
     k_steps
     refine Hold.of ?_
     rename Fr _ _ _ _ => F3
     rename News _ _ _ _ => N3
     have hrec1 := hRL.at (fun p hp => N3 p (hRr p hp)) ((hBV _ _ _ (fun p hp => N3 p (hBr p hp))).rules.append (hFV _ _ _ (fun p hp => N3 p (hFr p hp))).rules)
     obtain ⟨fuel, hfr⟩ := plain_fronts figs kn al hfb hkm
     rw [hrs] at hfr
     refine wpAny_call (fronts_spec (C0.1.deeper F3 rfl rfl) hrec1 (textF_len hfl hfb) hfr ?_)
     intro Dp1 hp1 tkp1 stp1 hnp1 hP1
     obtain ⟨wsP, nP, eP, paP⟩ := hP1
     have F4 := Fr.keeps F3 stp1
     have N4 := newsX F3 N3 stp1 hnp1 eP
     obtain ⟨X16, hX16⟩ : ∃ r, restOf s₁.heap s₁.heap.objs.size [] hp1 = r := ⟨_, rfl⟩
     have N5 := rest_news (h₀ := s₁.heap) (h := hp1) (L := s₁.heap.objs.size) (X := [])
     rw [hX16] at N5
     have in0 : ∀ p ∈ (Dp1, listOf (List.toArray wsP) nP) :: X15, p ∈ X16 := fun p hp => by
       have h0 := N4 p hp
       rw [← hX16]
       exact mem_restOf.mpr ⟨h0.2.1, (fun h => by cases h), h0.2.2, h0.1⟩
     have xP := in0 _ (.head _)
     replace xMar := in0 _ (.tail _ xMar)
     replace xCuts := in0 _ (.tail _ xCuts)
     replace xKin := in0 _ (.tail _ xKin)
     replace xDr := in0 _ (.tail _ xDr)
     replace xRow2 := in0 _ (.tail _ xRow2)
     replace xCut := in0 _ (.tail _ xCut)
     replace xBeg := in0 _ (.tail _ xBeg)
     replace hBr : ∀ p ∈ nfB, p ∈ X16 := fun p hp => in0 _ (.tail _ (hBr p hp))
     replace hFr : ∀ p ∈ nfF, p ∈ X16 := fun p hp => in0 _ (.tail _ (hFr p hp))
     obtain ⟨m16, F5, km⟩ := packF F4
     replace mMar := km (Str.ofString "marks") _ mMar
     replace mCuts := km (Str.ofString "cuts") _ mCuts
     replace mFre := km (Str.ofString "freed") _ mFre
     replace mBar := km (Str.ofString "barred") _ mBar
     replace mKin := km (Str.ofString "kinds") _ mKin
     replace mText := km (Str.ofString "text") _ mText
     have F4s := And.intro F4 trivial
     clear in0 N4 F3 N3 F4 stp1 hnp1 eP hrec1 hfr hRr hRL km
     dsimp only
     k_steps
     refine Hold.of ?_
     rename Fr _ _ _ _ => F6
     rename News _ _ _ _ => N6
     refine' slice_to (k := 1) F6 N6 (News.isList N6 xCuts) hIcu rfl ?z1 ?_ ?s1 ?t1
     case z1 => omega
     case s1 => exact rfl
     case t1 => intro _; rfl
     clear F6 N6
     intro Dx wx hx Fx Nx lx hIx
     k_steps
     refine Hold.of ?_
     rename Fr _ _ _ _ => F6
     rename News _ _ _ _ => N6
     refine' slice_to (k := 1) F6 N6 (News.isList N6 (.tail _ xMar)) hIm1 rfl ?z2 ?_ ?s2 ?t2
     case z2 => omega
     case s2 => exact rfl
     case t2 => intro _; rfl
     clear F6 N6
     intro Dy wy hy Fy Ny ly hIy
     k_steps
     rename Fr _ _ _ _ => F7
     rename News _ _ _ _ => N7
     rename IntsAre _ (List.take 1 cuts ++ List.take 1 marks) => hImin
     refine min_list_N rfl F7 N7 (News.isList N7 (.head _)) hImin (by rw [List.length_append, List.length_take]; omega) ?_
     intro hmi M tM tkM F8 N8 hM1 hM2
     rw [← hcuts, ← hmarks] at hM1 hM2
     have hM := min_stop hM1 hM2
     subst hM
     clear F7 N7 hM1 hM2 hImin hIx hIy lx ly
     have N8b : News s₁.heap s₁.heap.objs.size hmi X16 := fun p hp => N8 p (.tail _ (.tail _ (.tail _ hp)))
     clear N8
     k_steps
     refine Hold.of ?_
     refine wpAny_call (closed_spec (b := 0) (e := stopF rs al) (C0.1.deeper F8 rfl rfl) (News.isList N8b xDr) hIr (News.isList N8b xKin) hIk (stopF_le rs al) (by omega) (by omega) ?_)
     intro Dp2 hp2 tkp2 stp2 hnp2 hP2
     have F10 := Fr.keeps F8 stp2
     have N10 := News.keeps N8b stp2
     clear F8 N8b
     dsimp only
     obtain ⟨wsQ, nQ, eQ, paQ⟩ := hP2
     have hts := tupStay_led F4s.1 F10 N10 (X := []) (by
       intro p hp
       have hp' : p ∈ restOf s₁.heap s₁.heap.objs.size [] hp1 := hp
       rw [hX16] at hp'
       exact hp') (fun b hb => by cases hb)
     k_steps
     refine Hold.of ?_
     refine ne_pairs (N10 _ xP).1 eQ (paP.stay hts) paQ (cx_units (C0.1.deeper F10 rfl rfl)) ?_
     clear hts paQ eQ paP F4s hX16 hnp2 stp2
     k_steps
     rename Fr _ _ _ _ => F2
     rename News _ _ _ _ => N2
     rename ∀ p ∈ X16, @LT.lt Nat _ p.1 _ => hdu
     obtain ⟨m17, F3, km⟩ := packF F2
     have mDue := km (Str.ofString "due") _ rfl
     replace mMar := km (Str.ofString "marks") _ mMar
     replace mCuts := km (Str.ofString "cuts") _ mCuts
     replace mFre := km (Str.ofString "freed") _ mFre
     replace mBar := km (Str.ofString "barred") _ mBar
     replace mKin := km (Str.ofString "kinds") _ mKin
     replace mText := km (Str.ofString "text") _ mText
     refine store_cell F3 N2 (.tail _ xBeg) dBeg rfl ?_
     intro h6 oBeg2 X17 F1 N1 xBeg2 dBeg2 kc
     have xDue := kc _ _ (.head _) (.inl rfl)
     have ltDr := hdu _ xDr
     have ltKin := hdu _ xKin
     have ltMar := hdu _ xMar
     have ltCuts := hdu _ xCuts
     have ltRow := hdu _ xRow2
     have ltCut := hdu _ xCut
     have ltBeg := hdu _ xBeg
     have ltB : ∀ p ∈ nfB, @LT.lt Nat _ p.1 _ := fun p hp => hdu _ (hBr p hp)
     have ltF : ∀ p ∈ nfF, @LT.lt Nat _ p.1 _ := fun p hp => hdu _ (hFr p hp)
     replace xRow2 := kc _ _ (.tail _ xRow2) (.inr (cell_ne (a := s₁.heap.objs.size) (k := 2) (l := 5) (by decide)))
     replace xCut := kc _ _ (.tail _ xCut) (.inr (cell_ne (a := s₁.heap.objs.size) (k := 6) (l := 5) (by decide)))
     replace xMar := kc _ _ (.tail _ xMar) (.inl rfl)
     replace xCuts := kc _ _ (.tail _ xCuts) (.inl rfl)
     replace xKin := kc _ _ (.tail _ xKin) (.inl rfl)
     replace xDr := kc _ _ (.tail _ xDr) (.inl rfl)
     replace hBr : ∀ p ∈ nfB, p ∈ X17 := fun p hp => kc _ _ (.tail _ (hBr p hp)) (.inl (by simpa using List.all_eq_true.mp hBc p hp))
     replace hFr : ∀ p ∈ nfF, p ∈ X17 := fun p hp => kc _ _ (.tail _ (hFr p hp)) (.inl (by simpa using List.all_eq_true.mp hFc p hp))
     clear F2 F3 N2 km kc hdu xBeg dBeg xP
     k_steps
     rename_i zz1 zz2 zz3 zz4 zz5 l' zz6 h'
     clear hrb hm1 tkm1 m14 X14 Drec hre tkre nfR m15 X15 F3 N3 zz1 m15b mRec fuel Dp1 hp1 tkp1 wsP nP X16 m16 Dx wx hx Dy wy hy zz2 zz3 zz4 zz5 hmi tM tkM Dp2 hp2 tkp2 wsQ nQ zz6
     as_aux_lemma =>
      refine Hold.of ?_
      obtain ⟨St, hSt⟩ : ∃ r, restOf s₁.heap s₁.heap.objs.size [l', s₁.heap.objs.size + 1 + 1 + 1 + 1 + 1, s₁.heap.objs.size + 1 + 1 + 1 + 1 + 1 + 1] h6 = r := ⟨_, rfl⟩
      have inS : ∀ a o, (a, o) ∈ X17 → a ≠ l' → a ≠ s₁.heap.objs.size + 1 + 1 + 1 + 1 + 1 → a ≠ s₁.heap.objs.size + 1 + 1 + 1 + 1 + 1 + 1 → (a, o) ∈ St := fun a o h n1 n2 n3 => by
        rw [← hSt]
        have h0 := N1 _ h
        refine mem_restOf.mpr ⟨h0.2.1, fun hm => ?_, h0.2.2, h0.1⟩
        rcases List.mem_cons.mp hm with e | hm
        · exact n1 e
        · rcases List.mem_cons.mp hm with e | hm
          · exact n2 e
          · exact n3 (List.mem_singleton.mp hm)
      have kB := cellB dBeg2
      have kC := cellB dCut
      have sRow := inS _ _ xRow2 (Nat.ne_of_lt ltRow) (cell_ne (a := s₁.heap.objs.size) (k := 2) (l := 5) (by decide)) (cell_ne (a := s₁.heap.objs.size) (k := 2) (l := 6) (by decide))
      have sDr := inS _ _ xDr (Nat.ne_of_lt ltDr) (ne_cell N1 xDr xBeg2 rfl kB) (ne_cell N1 xDr xCut rfl kC)
      have sKin := inS _ _ xKin (Nat.ne_of_lt ltKin) (ne_cell N1 xKin xBeg2 rfl kB) (ne_cell N1 xKin xCut rfl kC)
      have sMar := inS _ _ xMar (Nat.ne_of_lt ltMar) (ne_cell N1 xMar xBeg2 rfl kB) (ne_cell N1 xMar xCut rfl kC)
      have sB : ∀ p ∈ nfB, p ∈ St := fun p hp => have k := (by simpa using List.all_eq_true.mp hBc p hp); inS _ _ (hBr p hp) (Nat.ne_of_lt (ltB p hp)) (ne_cell N1 (hBr p hp) xBeg2 k kB) (ne_cell N1 (hBr p hp) xCut k kC)
      have sF : ∀ p ∈ nfF, p ∈ St := fun p hp => have k := (by simpa using List.all_eq_true.mp hFc p hp); inS _ _ (hFr p hp) (Nat.ne_of_lt (ltF p hp)) (ne_cell N1 (hFr p hp) xBeg2 k kB) (ne_cell N1 (hFr p hp) xCut k kC)
      have NS : News s₁.heap s₁.heap.objs.size h6 St := fun p hp => by rw [← hSt] at hp; exact rest_news p hp
      have hS : ∀ p ∈ St, p.1 ≠ l' ∧ p.1 ≠ s₁.heap.objs.size + 1 + 1 + 1 + 1 + 1 ∧ p.1 ≠ s₁.heap.objs.size + 1 + 1 + 1 + 1 + 1 + 1 := fun p hp => by
        rw [← hSt] at hp
        exact ⟨rest_off _ (.head _) p hp, rest_off _ (.tail _ (.head _)) p hp, rest_off _ (.tail _ (.tail _ (.head _))) p hp⟩
      have nd := N1 _ xDue
      have nc := N1 _ xCut
      have nb := N1 _ xBeg2
      have nCb := ne_cell N1 xCuts xBeg2 rfl kB
      clear inS hSt hBr hFr hBc hFc ltDr ltKin ltMar ltRow ltB ltF xRow2 xDr xKin xMar kB kC
      refine' wpAny_For ?_ ?hs
      case hs => intro _; rfl
      k_steps
      refine Hold.of ?_
      refine for_list_cell (g := T.heap) (c := s₁.heap.objs.size + 1 + 1 + 1 + 1 + 1 + 1) rfl (News.isList N1 xCuts) F1 [l', s₁.heap.objs.size + 1 + 1 + 1 + 1 + 1] ?_ ?_ ?_ ?_ ?_ ⟨oCut, nc.1, dCut⟩ (by with_unfolding_all rfl) (by with_unfolding_all rfl) rfl (CutsJ T.heap s₁.heap.objs.size l' (s₁.heap.objs.size + 1 + 1 + 1 + 1 + 1) St (dueF rs kn marks cuts) (begF cuts)) ⟨⟨[], 0, nd.1, .nil⟩, ⟨oBeg2, _, nb.1, dBeg2⟩, NS⟩
        (CutsJ.softC nb.2.1 (cell_ne (a := s₁.heap.objs.size) (k := 5) (l := 6) (by decide)) (fun p hp => ⟨Heap.lt_size (NS p hp).1, (hS p hp).2.2⟩)) (fun _ => trivial)
        (fun m' => m' (Str.ofString "marks") = some (.ref Dm1) ∧ m' (Str.ofString "kinds") = some (.ref Dk) ∧ m' (Str.ofString "due") = some (.ref l') ∧ m' (Str.ofString "freed") = some (.ref xF) ∧ m' (Str.ofString "barred") = some (.ref xB) ∧ m' (Str.ofString "text") = some (.str (textF figs) tokt)) ⟨mMar, mKin, mDue, mFre, mBar, mText⟩ ?_ ?_
      · intro hm
        rcases List.mem_cons.mp hm with e | hm
        · exact absurd ltCuts (by rw [← e]; exact Nat.lt_irrefl _)
        · exact nCb (List.mem_singleton.mp hm)
      · intro b hb
        rcases List.mem_cons.mp hb with rfl | hb
        · exact Heap.lt_size nd.1
        · rw [List.mem_singleton.mp hb]; exact Heap.lt_size nb.1
      · intro hm
        rcases List.mem_cons.mp hm with e | hm
        · exact absurd ltCut (by rw [← e]; exact Nat.lt_irrefl _)
        · exact cell_ne (a := s₁.heap.objs.size) (k := 6) (l := 5) (by decide) (List.mem_singleton.mp hm)
      · exact nc.2.1
      · exact nc.2.2
      · clear F1 N1 NS mMar mKin mDue mFre mBar mText xCuts xDue xCut xBeg2
        intro i v m₂ h tkh hvi hJ hK F cc
        refine wpAny_gen ?_
        intro K hKT
        obtain ⟨⟨vs, n, e1, e2⟩, ⟨ob, tb, e3, e4⟩, NSt⟩ := hJ
        have hKs := And.intro hK trivial
        obtain ⟨mMar, mKin, mDue, mFre, mBar, mText⟩ := hK
        obtain ⟨ni, ti, rfl, hni⟩ := hIcu.at i v hvi
        obtain ⟨oc, ec, ecd⟩ := cc
        obtain ⟨rest1, hrest1⟩ : ∃ r, restOf T.heap s₁.heap.objs.size [l', s₁.heap.objs.size + 1 + 1 + 1 + 1 + 1] h = r := ⟨_, rfl⟩
        have in1 : ∀ p ∈ St, p ∈ rest1 := fun p hp => by
          have h0 := NSt p hp
          rw [← hrest1]
          refine mem_restOf.mpr ⟨h0.2.1, fun hm => ?_, h0.2.2, h0.1⟩
          rcases List.mem_cons.mp hm with e | hm
          · exact (hS p hp).1 e
          · exact (hS p hp).2.1 (List.mem_singleton.mp hm)
        have NT0 : News T.heap s₁.heap.objs.size h ((s₁.heap.objs.size + 1 + 1 + 1 + 1 + 1 + 1, oc) :: (s₁.heap.objs.size + 1 + 1 + 1 + 1 + 1, ob) :: (l', listOf (List.toArray vs) n) :: rest1) := by
          intro p hp
          rcases List.mem_cons.mp hp with rfl | hp
          · exact ⟨ec, nc.2.1, nc.2.2⟩
          · rcases List.mem_cons.mp hp with rfl | hp
            · exact ⟨e3, nb.2.1, nb.2.2⟩
            · rcases List.mem_cons.mp hp with rfl | hp
              · exact ⟨e1, nd.2.1, nd.2.2⟩
              · rw [← hrest1] at hp; exact rest_news p hp
        obtain ⟨X1, NT, kx⟩ : ∃ X, News T.heap s₁.heap.objs.size h X ∧ ∀ p ∈ (s₁.heap.objs.size + 1 + 1 + 1 + 1 + 1 + 1, oc) :: (s₁.heap.objs.size + 1 + 1 + 1 + 1 + 1, ob) :: (l', listOf (List.toArray vs) n) :: rest1, p ∈ X := ⟨_, NT0, fun _ h => h⟩
        have xC := kx _ (.head _)
        have xB5 := kx _ (.tail _ (.head _))
        have xDu := kx _ (.tail _ (.tail _ (.head _)))
        have x1 : ∀ p ∈ rest1, p ∈ X1 := fun p hp => kx _ (.tail _ (.tail _ (.tail _ hp)))
        have xRow := x1 _ (in1 _ sRow)
        have xDr := x1 _ (in1 _ sDr)
        have xKin := x1 _ (in1 _ sKin)
        have xMar := x1 _ (in1 _ sMar)
        have Fs := And.intro F trivial
        have NSts := And.intro NSt trivial
        clear NT0 kx NSt
        k_steps
        refine Hold.of ?_
        refine' assigncomp_ints (fun n y => ∃ t, y = .int (n + 1) t) (fun p => decide (begF cuts i ≤ p) && decide (p < ni)) ?e1 ?e2 ?e3 ?e4 ?e5 ?e6 ?e7 ?e8 ?e9 ?_
        case e1 => with_unfolding_all rfl
        case e2 => with_unfolding_all rfl
        case e3 => decide
        case e4 => rfl
        case e5 => decide
        case e6 => rfl
        case e7 => rfl
        case e8 => rfl
        case e9 => intro _; rfl
        k_steps
        refine Hold.of ?_
        refine ⟨_, _, _, _, src_list rfl (News.isList NT xMar) hIm1, Nat.le_trans hml (by decide), F, NT, ctests_one ?_, ?_, ?_⟩
        · intro C x t s₃ m₃ E' hn hC hns hm hst
          clear F Fs hKs hn hC
          k_steps
          refine Hold.of ?_
          refine' nameC NT hst rfl rfl rfl ?n4 ?n5 ?n6 ?_
          case n4 => exact xB5
          case n5 => assumption
          case n6 => decide
          k_steps
          · refine Hold.of ?_
            refine' nameC NT hst rfl rfl rfl ?n4 ?n5 ?n6 ?_
            case n4 => exact xC
            case n5 => assumption
            case n6 => decide
            k_steps
            all_goals (refine Hold.of ?_; refine ⟨?_, _, _, rfl, fun _ _ e => e⟩)
            all_goals (rw [Bool.eq_iff_iff]; simp only [Bool.and_eq_true, decide_eq_true_eq, Bool.false_eq_true, true_iff, false_iff]; omega)
          · refine Hold.of ?_
            refine ⟨?_, _, _, rfl, fun _ _ e => e⟩
            rw [Bool.eq_iff_iff]; simp only [Bool.and_eq_true, decide_eq_true_eq, Bool.false_eq_true, true_iff, false_iff]; omega
        · intro C x t s₃ m₃ E' hn _ hC hns hm hst
          clear F Fs hKs
          k_steps
          refine Hold.of ?_
          exact ⟨⟨_, rfl⟩, _, _, rfl, fun _ _ e => e⟩
        · clear F NT
          intro Db1 hb1 tkb1 wb1 nb1 Fb1 Nb1 hneb1 hPb1
          have hIb1 := paired_ints hPb1
          obtain ⟨m3, F3, km⟩ := packF Fb1
          replace mMar := km (Str.ofString "marks") _ mMar
          replace mKin := km (Str.ofString "kinds") _ mKin
          replace mDue := km (Str.ofString "due") _ mDue
          replace mFre := km (Str.ofString "freed") _ mFre
          replace mBar := km (Str.ofString "barred") _ mBar
          replace mText := km (Str.ofString "text") _ mText
          have mBeh := km (Str.ofString "behind") _ rfl
          clear Fb1 km hPb1 hneb1
          dsimp only
          k_steps
          rename Fr _ _ _ _ => F7
          rename News _ _ _ _ => N7
          refine addl_ints2 F7 N7 (News.isList N7 (.head _)) (News.isList N7 (.tail _ (.head _))) (.cons _ _ .nil) hIb1 (by
            have := List.length_filter_le (fun p => decide (begF cuts i ≤ p) && decide (p < ni)) marks
            rw [List.length_map, List.length_singleton]; omega) ?_
          intro Dad had wad Fad Nad lad hIad
          clear F7 N7 hIb1 lad
          have Nad2 := newsP Nad (.head _) (fun p hp => Nad p (.tail _ (.tail _ (.tail _ hp))))
          clear Nad
          k_steps
          refine Hold.of ?_
          rename Fr _ _ _ _ => F8
          rename News _ _ _ _ => N8
          rename _ ∈ [begF cuts i] ++ _ => hMa
          rename ∀ a, a ∈ [begF cuts i] ++ _ → a ≤ _ => hMb
          have hcF : cuts = cutsF rs := hcuts.symm
          have hmF : marks = marksF rs al := hmarks.symm
          have hil : i < cuts.length := (List.getElem?_eq_some_iff.mp hni).1
          have hgd : cuts.getD i 0 = ni := by rw [List.getD_eq_getElem?_getD, hni]; rfl
          obtain ⟨b, m, c, hb, hc, hm, hbm, hmc, hcl'⟩ := cut_range (rs := rs) (marks := marks) al hmF (i := i) (by rw [← hcF]; exact hil)
          rw [← hcF] at hb hc hm
          rw [hgd] at hc hm
          have hMm := mF_max hMa hMb
          rw [hm] at hMm
          subst hMm
          subst hc
          clear hMa hMb hIad hb hbm
          refine wpAny_call (closed_spec (b := m) (e := c) (C0.1.deeper F8 rfl rfl) (News.isList N8 (.tail _ xDr)) hIr (News.isList N8 (.tail _ xKin)) hIk hcl' (by omega) (by omega) ?_)
          intro Dcl hcl2 tkcl stcl hncl hPcl
          obtain ⟨ws2, n2, eD, pD⟩ := hPcl
          have Ncl := newsX F8 N8 stcl hncl eD
          have F9 := Fr.keeps F8 stcl
          have nd2 := (Ncl _ (.tail _ (.tail _ xDu))).1
          have nb2 := (Ncl _ (.tail _ (.tail _ xB5))).1
          dsimp only
          obtain ⟨rest2, hrest2⟩ : ∃ r, restOf T.heap s₁.heap.objs.size [l', s₁.heap.objs.size + 1 + 1 + 1 + 1 + 1] hcl2 = r := ⟨_, rfl⟩
          have NR2 := rest_news (h₀ := T.heap) (h := hcl2) (L := s₁.heap.objs.size) (X := [l', s₁.heap.objs.size + 1 + 1 + 1 + 1 + 1])
          have or2 := rest_off (h₀ := T.heap) (h := hcl2) (L := s₁.heap.objs.size) (X := [l', s₁.heap.objs.size + 1 + 1 + 1 + 1 + 1])
          rw [hrest2] at NR2 or2
          have hsub : ∀ p ∈ rest1, p ∈ rest2 := by
            intro p hp
            have h0 := Ncl p (.tail _ (.tail _ (x1 p hp)))
            rw [← hrest2]
            rw [← hrest1] at hp
            exact mem_restOf.mpr ⟨h0.2.1, (mem_restOf.mp hp).2.1, h0.2.2, h0.1⟩
          have xCl := Ncl _ (.head _)
          have nDd : Dcl ≠ l' := by
            rintro rfl
            have h0 := (N8 _ (.tail _ xDu)).1
            rw [hncl] at h0; cases h0
          have nDb : Dcl ≠ s₁.heap.objs.size + 1 + 1 + 1 + 1 + 1 := by
            rintro rfl
            have h0 := (N8 _ (.tail _ xB5)).1
            rw [hncl] at h0; cases h0
          have N10 : News T.heap s₁.heap.objs.size hcl2 ((l', listOf (List.toArray vs) n) :: (Dcl, listOf (List.toArray ws2) n2) :: (s₁.heap.objs.size + 1 + 1 + 1 + 1 + 1, ob) :: (s₁.heap.objs.size + 1 + 1 + 1 + 1 + 1 + 1, oc) :: rest2) :=
            newsP Ncl (.tail _ (.tail _ xDu)) (newsP Ncl (.head _) (newsP Ncl (.tail _ (.tail _ xB5)) (newsP Ncl (.tail _ (.tail _ xC)) NR2)))
          have o1 : ∀ p ∈ (Dcl, listOf (List.toArray ws2) n2) :: (s₁.heap.objs.size + 1 + 1 + 1 + 1 + 1, ob) :: (s₁.heap.objs.size + 1 + 1 + 1 + 1 + 1 + 1, oc) :: rest2, p.1 ≠ l' := by
            intro p hp
            rcases List.mem_cons.mp hp with rfl | hp
            · exact nDd
            rcases List.mem_cons.mp hp with rfl | hp
            · exact Nat.ne_of_lt ltBeg
            rcases List.mem_cons.mp hp with rfl | hp
            · exact Nat.ne_of_lt ltCut
            · exact or2 _ (.head _) p hp
          have o2 : ∀ ob, OwnOff ((s₁.heap.objs.size + 1 + 1 + 1 + 1 + 1 + 1, oc) :: (l', ob) :: rest2) [s₁.heap.objs.size + 1 + 1 + 1 + 1 + 1] := by
            intro ob p hp c hc
            rw [List.mem_singleton.mp hc]
            rcases List.mem_cons.mp hp with rfl | hp
            · exact cell_ne (a := s₁.heap.objs.size) (k := 6) (l := 5) (by decide)
            rcases List.mem_cons.mp hp with rfl | hp
            · exact Nat.ne_of_gt ltBeg
            · exact or2 _ (.tail _ (.head _)) p hp
          have F9s := And.intro F9 trivial
          clear N8 F8 Ncl nDd nDb NR2 stcl hncl eD xCl
          k_steps
          refine ext_any F9 N10 (.tail _ (.head _)) (.head o1) ?_ ?_
          · have l1 := dueF_len (kn := kn) al hmF i (by rw [← hcF]; omega)
            have l2 : (closedF rs kn m c).length ≤ c - m := (closedRun_len (rs := rs) (ks := kn) (b := m) (c - m)).2
            rw [← hcF] at l1
            have l3 := e2.length
            have l4 := pD.length
            have l5 : rs.length * i ≤ 10 * i := Nat.mul_le_mul_right _ hrl
            clear o1 o2 or2 hsub
            omega
          intro hx nx Fx Nx
          have o2x := o2 (listOf (List.toArray (vs ++ ws2)) nx)
          have Nx2 := newsP Nx (.tail _ (.tail _ (.head _))) (newsP Nx (.tail _ (.tail _ (.tail _ (.head _)))) (newsP Nx (.head _) (fun p hp => Nx p (.tail _ (.tail _ (.tail _ (.tail _ hp)))))))
          clear Nx F9 N10 o2 o1
          k_steps
          rename Fr _ _ _ _ => F12
          rename News _ _ _ _ => N12
          rename Obj.data _ = Data.cell (some (Value.int ((c : Int) + 1) _)) => dB
          have hbeg : begF cuts (i + 1) = (c : Int) + 1 := by
            rw [show begF cuts (i + 1) = cuts.getD i 0 + 1 from rfl, hgd]
          rw [← hbeg] at dB
          have T1 := tup_off Fs.1 F12 N12 (fun p hp => .tail _ (.tail _ (.tail _ (hsub p (by rw [← hrest1]; exact hp))))) e1 e3 e4
          have T2 := tup_off F9s.1 F12 N12 (fun p hp => .tail _ (.tail _ (.tail _ (by rw [← hrest2]; exact hp)))) nd2 nb2 e4
          refine hKT _ _ ?_
          refine TurnEnd.next Fs.1 F12 N12 (fun p hp => .tail _ (.tail _ (.tail _ (hsub p (by rw [← hrest1]; exact hp))))) ⟨⟨⟨vs ++ ws2, nx, (N12 _ (.tail _ (.tail _ (.head _)))).1, ?_⟩, ⟨_, _, (N12 _ (.head _)).1, dB⟩, ?_⟩, ?_⟩
          · have hd1 : dueF rs kn marks cuts (i + 1) = dueF rs kn marks cuts i ++ closedF rs kn m c := by
              rw [dueF, hgd, hm]
              rfl
            rw [hd1]
            exact (e2.stay T1).append (pD.stay T2)
          · exact fun p hp => N12 p (.tail _ (.tail _ (.tail _ (hsub p (in1 p hp)))))
          · exact ⟨mMar, mKin, mDue, mFre, mBar, mText⟩
      · intro hE tkE mE hJE hKE FE
        obtain ⟨⟨vsD, nD, eDu, pDu⟩, _, NSE⟩ := hJE
        obtain ⟨mMar, mKin, mDue, mFre, mBar, mText⟩ := hKE
        obtain ⟨rest3, hrest3⟩ : ∃ r, restOf T.heap s₁.heap.objs.size [] hE = r := ⟨_, rfl⟩
        have NR3 := rest_news (h₀ := T.heap) (h := hE) (L := s₁.heap.objs.size) (X := [])
        rw [hrest3] at NR3
        have in3 : ∀ p ∈ St, p ∈ rest3 := fun p hp => by
          have h0 := NSE p hp
          rw [← hrest3]
          exact mem_restOf.mpr ⟨h0.2.1, (fun h => by cases h), h0.2.2, h0.1⟩
        have hDu3 : (l', listOf (List.toArray vsD) nD) ∈ rest3 := by
          rw [← hrest3]
          exact mem_restOf.mpr ⟨nd.2.1, (fun h => by cases h), nd.2.2, eDu⟩
        have hEs := And.intro FE trivial
        have hlenE := hIcu.length
        rw [hlenE] at pDu
        clear F1 N1 NS NSE hS nd nc nb nCb hlenE sRow sDr sKin sMar xCuts xDue xCut xBeg2
        dsimp only
        k_steps
        refine Hold.of ?_
        rename Fr _ _ _ _ => F1
        rename News _ _ _ _ => N1
        have NF1 : News _ _ _ nfF := fun p hp => N1 p (in3 p (sF p hp))
        have NB1 : News _ _ _ nfB := fun p hp => N1 p (in3 p (sB p hp))
        refine wpAny_call (merge_spec3 (C0.1.deeper F1 rfl rfl) (hFV _ _ _ NF1) (hBV _ _ _ NB1) (by unfold freeR; split <;> simp) (by simp) ?_)
        intro Dre2 hre2 tkre2 nfR2 stR2 hnR2 hRL2 hRc2
        have F2 := Fr.keeps F1 stR2
        have N2 := grow_list F1 N1 stR2 hnR2
        clear F1 N1 NF1 NB1
        dsimp only
        walk1
        rename Fr _ _ _ _ => F2
        obtain ⟨m5, F3, km⟩ := packF F2
        have mRec := km (Str.ofString "record") _ rfl
        replace mText := km (Str.ofString "text") _ mText
        replace mDue := km (Str.ofString "due") _ mDue
        clear F2 km
        k_steps
        refine Hold.of ?_
        rename Fr _ _ _ _ => F3
        rename News _ _ _ _ => N3
        have NF3 : News _ _ _ nfF := fun p hp => N3 p (List.mem_append_left _ (in3 p (sF p hp)))
        have NB3 : News _ _ _ nfB := fun p hp => N3 p (List.mem_append_left _ (in3 p (sB p hp)))
        have hrec2 := hRL2.at (fun p hp => N3 p (List.mem_append_right _ hp)) ((hFV _ _ _ NF3).rules.append (hBV _ _ _ NB3).rules)
        obtain ⟨res, hen, hperm, hdesc, hres5⟩ := plain_ends figs kn al hfb hkm (by rw [hrs]; exact hrl)
        rw [hrs] at hperm
        refine wpAny_call (ends_spec (C0.1.deeper F3 rfl rfl) hrec2 (textF_len hfl hfb) hen ?_)
        intro De he tke ste hne hPe
        have F4 := Fr.keeps F3 ste
        have N4 := News.keeps N3 ste
        have F4s := And.intro F4 trivial
        have N4s := And.intro N4 trivial
        clear hrec2 hen NF3 NB3 F3 N3
        dsimp only
        k_steps
        have hcF : cuts = cutsF rs := hcuts.symm
        have hmF : marks = marksF rs al := hmarks.symm
        rw [hcF, hmF] at pDu
        have T3 := tupStay_led hEs.1 F4s.1 N4s.1 (X := []) (by
          intro p hp
          have hp' : p ∈ restOf T.heap s₁.heap.objs.size [] hE := hp
          rw [hrest3] at hp'
          exact List.mem_append_left _ hp') (fun b hb => by cases hb)
        have hnd := desc_nodup hdesc
        rw [(hperm.map _).nodup_iff] at hnd
        (with_unfolding_all show wpAny _ _ (call (Value.builtin "sorted") [Value.ref l'] [(PySem.Str.ofString "reverse", Value.bool true)]) _ _ _)
        refine sorted_pairs (News.isList N4s.1 (List.mem_append_left _ hDu3)) (pDu.stay T3) hnd (by rw [← hperm.length_eq]; exact hres5) ?_
        intro D2 h2 out qs e2 st2 hn2 eo pq hq dq
        have hqs : qs = res := desc_unique (hq.trans hperm.symm) dq hdesc
        subst hqs
        obtain ⟨wsE, nE, eE, pE⟩ := hPe.stays st2
        refine eq_pairs eE eo pE pq (cx_units (C0.1.deeper F4s.1 rfl rfl)) ?_
        have F5 := Fr.keeps F4s.1 st2
        clear F4 N4 F4s N4s hEs T3 eE eo pE pq hq dq hperm hdesc hnd hPe pDu
        dsimp only
        k_steps
theorem law_holds : pLaw.Holds := by
  w_on
  o_law
  o_head (kHook pHeap pAdds pAdds_eq)
  (case hw => w_witness2)
  exact law_walk _ _ rfl
end
end
end Mine
theorem PySem.Challenge.cw_rl0060_01_holds : PySem.Challenge.rw_rl0060_01.Holds :=
  Mine.law_eq ▸ Mine.law_holds
