import PyProof.Rows.All
import Wide.All
import OpenK.AllK
import Wide.FinOn
import PyProof.FactsAll.object_1
import PyProof.FactsAll.tuple_2
import PyProof.ExcArgs
import PyProof.ExcFactsAll.ValueError
import PySem.Challenge.RW_op0244_01
set_option Elab.async false
set_option maxRecDepth 100000
set_option linter.unusedVariables false
set_option linter.unusedSimpArgs false
namespace Mine
open PySem PySem.W PyProof.Rows PySem.Calls
section text_Hd
set_option maxRecDepth 100000
set_option maxHeartbeats 8000000

/-- the head without cuts: the whole top in one check, behind the start-up that the library has run -/
theorem left_of_boot {p q : Program} {loose : List Str} {Xt : Shared → Bool} {α : Type} {Yf : Shared → α} {Ya : World → α} {N m₀ : Nat} {ann : Option Value}
    (e : opening p = plainProg p.main.scope.names) (hN : Nat.ble 600 N = true) (f : ∀ s, fenceModules? p s = some s)
    (size : ∀ w : World, ((boot_heap w.params).isNs mainGlobals, (boot_heap w.params).objs.size, (boot_heap w.params).nsMap mainGlobals "__annotations__") = (true, m₀, ann))
    (h : ∀ w : World, (fun os => (Fast.tw14082659384304107361 Fast.tw14364793385576792824 p w m₀ ann N ⟨boot_heap w.params, Array.mk [], boot_drawn, boot_toks, os⟩ (topStub p)).map fun s =>
        ((staticsOk (importedModules p.main.body) (boot_heap w.params) s.heap && namesBound p s.heap && gensDone s && laidKept (boot_heap w.params) s.heap),
          Fast.tw4187177175401517315 q loose (importedModules p.main.body) Xt true s, Yf s)) = fun _ => some (true, openGood q loose, Ya w)) :
    LeftO p q loose Xt Yf Ya N true := fun w => by
  obtain ⟨⟨h0, gs, d, k, os⟩, e1, e2⟩ := Option.map_eq_some_iff.mp (boot_open e hN f w)
  obtain ⟨rfl, rfl, rfl, rfl⟩ : h0 = boot_heap w.params ∧ gs = Array.mk [] ∧ d = boot_drawn ∧ k = boot_toks := by simpa using e2
  obtain ⟨z1, z2, z3⟩ : _ ∧ _ ∧ _ := by simpa only [Prod.mk.injEq] using size w
  have hr := congrFun (h w) os
  simp only [← Fast.te14082659384304107361, ← Fast.te14364793385576792824, ← Fast.te4187177175401517315] at hr
  obtain ⟨s₁, r1, r2⟩ := Option.map_eq_some_iff.mp hr
  obtain ⟨l1, l2, l3⟩ : _ ∧ _ ∧ _ := by simpa only [Prod.mk.injEq] using r2
  have t : topFrom treeTable p w N ⟨boot_heap w.params, Array.mk [], boot_drawn, boot_toks, os⟩ = some s₁ := by
    unfold topFrom
    dsimp only
    rw [z1, z2, z3, r1]
    show (match staticsOk (importedModules p.main.body) (boot_heap w.params) s₁.heap && namesBound p s₁.heap && gensDone s₁ && laidKept (boot_heap w.params) s₁.heap with | true => _ | false => _) = _
    rw [l1]
  unfold openEnds
  rw [e1]
  show (topFrom treeTable p w N _).map _ = _
  rw [t]
  exact congrArg some (Prod.ext l2 l3)

noncomputable def lawView : Program := view PySem.Challenge.pw_op0244_01 [0, 2, 3, 4, 5, 6, 8, 9, 10, 11, 12, 13, 16, 17, 18, 19, 20, 21, 22, 23, 25, 26, 27, 28, 29, 30]
noncomputable def lawLoose : List Str := ["_NodeInfo", "nlargest"]
noncomputable abbrev lawXt (s : Shared) : Bool := xlAt lawView [] s && recOk (RowW.records (OpenRow.toRowW PySem.Challenge.rw_op0244_01.row)) s
theorem law_of (h : PySem.Challenge.rw_op0244_01.row.Holds) : PySem.Challenge.rw_op0244_01.Holds := holds_law (by kernel_rfl) fun _ => h
theorem head_of (H : Hook)
    (h : ∀ w : World, (fun os => (Fast.tw14082659384304107361 Fast.tw14364793385576792824 PySem.Challenge.pw_op0244_01 w 11 (some (.ref 6)) 3506 ⟨boot_heap w.params, Array.mk [], boot_drawn, boot_toks, os⟩ (topStub PySem.Challenge.pw_op0244_01)).map fun s =>
        ((staticsOk (importedModules PySem.Challenge.pw_op0244_01.main.body) (boot_heap w.params) s.heap && namesBound PySem.Challenge.pw_op0244_01 s.heap && gensDone s && laidKept (boot_heap w.params) s.heap),
          Fast.tw4187177175401517315 lawView lawLoose (importedModules PySem.Challenge.pw_op0244_01.main.body) lawXt true s, H.obs s)) = fun _ => some (true, openGood lawView lawLoose, H.val w))
    {d : DefRec} {kwd : List (Str × Expr)} (hdef : defOf lawView PySem.Challenge.rw_op0244_01.row.name = some (d, kwd))
    (hp : PySem.Challenge.rw_op0244_01.row.prog.theDef PySem.Challenge.rw_op0244_01.row.name = some (d.params, d.body, d.scope)) (hk : kwWritten? d.params.kwonlyargs d.params.kw_defaults = some kwd)
    (hw : PySem.Challenge.rw_op0244_01.row.toRowW.promised) (hc : WalkO lawView lawLoose (XL lawView []) H.says PySem.Challenge.rw_op0244_01.row.toRowW d kwd fun f vs => PySem.call f vs) : PySem.Challenge.rw_op0244_01.row.Holds :=
  holds_open (q := lawView) (loose := lawLoose) (Xt := lawXt) (XP := XL lawView []) (left_of_boot (by rfl) (by decide) (fun _ => by rfl) (fun _ => by kernel_rfl) h) H.of H.keeps
    (fun s e => xl_of s (Bool.and_eq_true_iff.mp e).1) XL.keeps hdef hp hk (fun s e => recFacts_of (Bool.and_eq_true_iff.mp e).2) (by rfl) (by kernel_rfl) (by kernel_rfl) ⟨rfl, rfl, rfl, rfl, rfl, by decide +kernel⟩ hw hc
local macro_rules | `(tactic| o_law) => `(tactic| refine law_of ?_)
local macro_rules | `(tactic| o_head $H) => `(tactic| refine head_of $H (fun _ => by kernel_rfl) (by rfl) (by rfl) (by rfl) ?hw ?hc)
open_top hd for PySem.Challenge.rw_op0244_01
end text_Hd
section text_LyA
set_option maxRecDepth 100000

noncomputable abbrev BM := Addr → Option Obj
noncomputable abbrev NM := Str → Option Value
noncomputable abbrev Led := List (Addr × (Obj → Prop))

noncomputable def IsL (vs : List Value) : Obj → Prop := fun o => ∃ n, o = listOf vs.toArray n
noncomputable def IsT (vs : List Value) : Obj → Prop := fun o => ∃ n, o = { cls := .type "tuple", data := .seq vs.toArray n }
noncomputable def IsC (v : Option Value) : Obj → Prop := fun o => o.data = .cell v

/-- the state: the frames' names, the frozen part, the ledger of what may change, the rest of the machine -/
structure St (R : Shared) (B : BM) (F : List (Addr × NM)) (μ : Led) (s : Shared) : Prop where
  fr : ∀ p ∈ F, s.heap.Ns p.1 p.2
  fb : ∀ p ∈ F, B p.1 = none
  fm : ∀ p ∈ F, p.1 ∉ μ.map (·.1)
  fd : (F.map (·.1)).Nodup
  keep : ∀ b o, B b = some o → s.heap.get? b = some o
  led : ∀ p ∈ μ, ∃ o, s.heap.get? p.1 = some o ∧ p.2 o
  mb : ∀ p ∈ μ, B p.1 = none
  md : (μ.map (·.1)).Nodup
  gens : s.gens = R.gens
  os : s.os = R.os
  drawn : s.drawn = R.drawn

noncomputable def Sub (B B' : BM) : Prop := ∀ a o, B a = some o → B' a = some o
theorem Sub.refl (B : BM) : Sub B B := fun _ _ h => h
theorem Sub.trans {B B' B'' : BM} (h : Sub B B') (h' : Sub B' B'') : Sub B B'' := fun a o e => h' a o (h a o e)

inductive Set1 (a : Addr) (P P' : Obj → Prop) : Led → Led → Prop
  | head {r} : Set1 a P P' ((a, P) :: r) ((a, P') :: r)
  | tail {p r r'} : Set1 a P P' r r' → Set1 a P P' (p :: r) (p :: r')
theorem Set1.keys {a P P'} : ∀ {μ μ' : Led}, Set1 a P P' μ μ' → μ'.map (·.1) = μ.map (·.1)
  | _, _, .head => rfl
  | _, _, .tail h => by simp only [List.map_cons]; rw [h.keys]
theorem Set1.mem {a P P'} : ∀ {μ μ' : Led}, Set1 a P P' μ μ' → (a, P) ∈ μ
  | _, _, .head => .head _
  | _, _, .tail h => .tail _ h.mem
theorem Set1.split {a P P'} : ∀ {μ μ' : Led}, Set1 a P P' μ μ' → ∀ p ∈ μ', p = (a, P') ∨ (p ∈ μ ∧ (p.1 = a → ¬ (μ.map (·.1)).Nodup))
  | _, _, .head, p, hp => by
    rcases List.mem_cons.mp hp with e | e
    · exact .inl e
    · refine .inr ⟨.tail _ e, fun q nd => ?_⟩
      simp only [List.map_cons, List.nodup_cons] at nd
      exact nd.1 (q ▸ List.mem_map_of_mem e)
  | _, _, .tail (p := p₀) (r := r) h, p, hp => by
    rcases List.mem_cons.mp hp with e | e
    · refine .inr ⟨e ▸ .head _, fun q nd => ?_⟩
      simp only [List.map_cons, List.nodup_cons] at nd
      have : a ∈ r.map (·.1) := List.mem_map_of_mem (f := (·.1)) h.mem
      exact nd.1 (by rw [← e, q]; exact this)
    · rcases h.split p e with z | ⟨z, y⟩
      · exact .inl z
      · refine .inr ⟨.tail _ z, fun q nd => y q ?_⟩
        simp only [List.map_cons, List.nodup_cons] at nd
        exact nd.2

section
variable {R : Shared} {B : BM} {F : List (Addr × NM)} {μ μ' : Led} {s : Shared}

theorem St.toks (X : St R B F μ s) (t : Nat) : St R B F μ { s with toks := t } :=
  ⟨X.fr, X.fb, X.fm, X.fd, X.keep, X.led, X.mb, X.md, X.gens, X.os, X.drawn⟩
theorem St.get (X : St R B F μ s) {a : Addr} {P : Obj → Prop} (h : (a, P) ∈ μ) : ∃ o, s.heap.get? a = some o ∧ P o := X.led _ h

theorem St.set1 (X : St R B F μ s) {a : Addr} {P P' : Obj → Prop} (U : Set1 a P P' μ μ') {h' : Heap} {tk : Nat} (hs : Heap.SameBut a s.heap h') (hp : ∃ o, h'.get? a = some o ∧ P' o) :
    St R B F μ' { s with heap := h', toks := tk } where
  fr p hp := (X.fr p hp).sameBut hs fun e => X.fm p hp (e ▸ List.mem_map_of_mem (f := (·.1)) U.mem)
  fb := X.fb
  fm p hp := by rw [U.keys]; exact X.fm p hp
  fd := X.fd
  keep b o e := by
    have : b ≠ a := fun q => by have := X.mb _ U.mem; simp only [] at this; rw [← q, e] at this; cases this
    exact (hs.2 b this).trans (X.keep b o e)
  led p hp' := by
    rcases U.split p hp' with rfl | ⟨q, y⟩
    · exact hp
    · obtain ⟨o, ho, z⟩ := X.led p q
      exact ⟨o, (hs.2 p.1 (fun e => y e X.md)).trans ho, z⟩
  mb p hp' := by
    rcases U.split p hp' with rfl | ⟨q, y⟩
    · exact X.mb (a, P) U.mem
    · exact X.mb p q
  md := by rw [U.keys]; exact X.md
  gens := X.gens
  os := X.os
  drawn := X.drawn

theorem St.store {L : Addr} {m m' : NM} (X : St R B ((L, m) :: F) μ s) {h' : Heap} {tk : Nat} (hn : h'.Ns L m') (hs : Heap.SameBut L s.heap h') : St R B ((L, m') :: F) μ { s with heap := h', toks := tk } where
  fr p hp := by
    rcases List.mem_cons.mp hp with rfl | q
    · exact hn
    · have nd := X.fd
      simp only [List.map_cons, List.nodup_cons] at nd
      exact (X.fr p (.tail _ q)).sameBut hs fun e => nd.1 (e ▸ List.mem_map_of_mem q)
  fb p hp := by
    rcases List.mem_cons.mp hp with rfl | q
    · exact X.fb (L, m) (.head _)
    · exact X.fb p (.tail _ q)
  fm p hp := by
    rcases List.mem_cons.mp hp with rfl | q
    · exact X.fm (L, m) (.head _)
    · exact X.fm p (.tail _ q)
  fd := X.fd
  keep b o e := by
    have : b ≠ L := fun q => by have := X.fb (L, m) (.head _); simp only [] at this; rw [← q, e] at this; cases this
    exact (hs.2 b this).trans (X.keep b o e)
  led p hp := by
    obtain ⟨o, ho, z⟩ := X.led p hp
    exact ⟨o, (hs.2 p.1 fun e => X.fm (L, m) (.head _) (e ▸ List.mem_map_of_mem hp)).trans ho, z⟩
  mb := X.mb
  md := X.md
  gens := X.gens
  os := X.os
  drawn := X.drawn

/-- more objects, all that stood kept -/
theorem St.grow (X : St R B F μ s) {h' : Heap} {tk : Nat} (hk : ∀ b o, s.heap.get? b = some o → h'.get? b = some o) : St R B F μ { s with heap := h', toks := tk } where
  fr p hp := (X.fr p hp).keeps hk
  fb := X.fb
  fm := X.fm
  fd := X.fd
  keep b o e := hk b o (X.keep b o e)
  led p hp := let ⟨o, ho, z⟩ := X.led p hp; ⟨o, hk _ _ ho, z⟩
  mb := X.mb
  md := X.md
  gens := X.gens
  os := X.os
  drawn := X.drawn

theorem St.fresh (X : St R B F μ s) : B s.heap.objs.size = none ∧ s.heap.objs.size ∉ μ.map (·.1) ∧ s.heap.objs.size ∉ F.map (·.1) := by
  refine ⟨?_, ?_, ?_⟩
  · cases q : B s.heap.objs.size with
    | none => rfl
    | some o => exact absurd (Heap.lt_size (X.keep _ _ q)) (Nat.lt_irrefl _)
  · intro q
    obtain ⟨p, hp, e⟩ := List.mem_map.mp q
    obtain ⟨o, ho, _⟩ := X.led p hp
    exact absurd (Heap.lt_size ho) (e ▸ Nat.lt_irrefl _)
  · intro q
    obtain ⟨p, hp, e⟩ := List.mem_map.mp q
    exact absurd (X.fr p hp).lt (e ▸ Nat.lt_irrefl _)

theorem St.new (X : St R B F μ s) {o : Obj} {P : Obj → Prop} {tk : Nat} (hP : P o) (hf : o.isFreed = false := by rfl) : St R B F ((s.heap.objs.size, P) :: μ) { s with heap := s.heap.push o, toks := tk } := by
  have Y := X.grow (h' := s.heap.push o) (tk := tk) fun b o' e => Heap.get?_push_of_some _ e
  obtain ⟨f1, f2, f3⟩ := X.fresh
  refine ⟨Y.fr, Y.fb, fun p hp q => ?_, Y.fd, Y.keep, fun p hp => ?_, fun p hp => ?_, ?_, Y.gens, Y.os, Y.drawn⟩
  · rcases List.mem_cons.mp q with e | e
    · have e' : p.1 = s.heap.objs.size := e
      exact f3 (e' ▸ List.mem_map_of_mem hp)
    · exact Y.fm p hp e
  · rcases List.mem_cons.mp hp with rfl | e
    · exact ⟨o, Heap.get?_push_size _ hf, hP⟩
    · exact Y.led p e
  · rcases List.mem_cons.mp hp with rfl | e
    · exact f1
    · exact Y.mb p e
  · simp only [List.map_cons, List.nodup_cons]
    exact ⟨f2, Y.md⟩

theorem St.enter (X : St R B F μ s) {h' : Heap} {tk : Nat} {m : NM} (hn : h'.Ns s.heap.objs.size m) (hk : ∀ b o, s.heap.get? b = some o → h'.get? b = some o) :
    St R B ((s.heap.objs.size, m) :: F) μ { s with heap := h', toks := tk } := by
  have Y := X.grow (h' := h') (tk := tk) hk
  obtain ⟨f1, f2, f3⟩ := X.fresh
  refine ⟨fun p hp => ?_, fun p hp => ?_, fun p hp => ?_, ?_, Y.keep, Y.led, Y.mb, Y.md, Y.gens, Y.os, Y.drawn⟩
  · rcases List.mem_cons.mp hp with rfl | e
    · exact hn
    · exact Y.fr p e
  · rcases List.mem_cons.mp hp with rfl | e
    · exact f1
    · exact Y.fb p e
  · rcases List.mem_cons.mp hp with rfl | e
    · exact f2
    · exact Y.fm p e
  · simp only [List.map_cons, List.nodup_cons]
    exact ⟨f3, Y.fd⟩
theorem St.leave {f : Addr × NM} (X : St R B (f :: F) μ s) : St R B F μ s :=
  ⟨fun p hp => X.fr p (.tail _ hp), fun p hp => X.fb p (.tail _ hp), fun p hp => X.fm p (.tail _ hp), by have := X.fd; simp only [List.map_cons, List.nodup_cons] at this; exact this.2, X.keep, X.led, X.mb, X.md, X.gens, X.os, X.drawn⟩
/-- entries may be let go -/
theorem St.drop (X : St R B F μ s) (h : List.Sublist μ' μ) : St R B F μ' s :=
  ⟨X.fr, X.fb, fun p hp q => X.fm p hp ((h.map _).subset q), X.fd, X.keep, fun p hp => X.led p (h.subset hp), fun p hp => X.mb p (h.subset hp), (h.map _).nodup X.md, X.gens, X.os, X.drawn⟩
theorem St.drop1 {p : Addr × (Obj → Prop)} (X : St R B F (p :: μ) s) : St R B F μ s := X.drop (List.sublist_cons_self _ _)
/-- what an entry says may be weakened -/
theorem St.weak1 {a : Addr} {P P' : Obj → Prop} (X : St R B F ((a, P) :: μ) s) (h : ∀ o, P o → P' o) : St R B F ((a, P') :: μ) s :=
  ⟨X.fr, X.fb, X.fm, X.fd, X.keep, fun p hp => by
    rcases List.mem_cons.mp hp with rfl | e
    · obtain ⟨o, ho, z⟩ := X.led (a, P) (.head _)
      exact ⟨o, ho, h o z⟩
    · exact X.led p (.tail _ e), fun p hp => by
    rcases List.mem_cons.mp hp with rfl | e
    · exact X.mb (a, P) (.head _)
    · exact X.mb p (.tail _ e), X.md, X.gens, X.os, X.drawn⟩
/-- the frozen part may be made smaller -/
theorem St.less {B' : BM} (X : St R B' F μ s) (h : Sub B B') : St R B F μ s :=
  have no : ∀ a, B' a = none → B a = none := fun a e => by
    cases q : B a with
    | none => rfl
    | some o => rw [h a o q] at e; cases e
  ⟨X.fr, fun p hp => no _ (X.fb p hp), X.fm, X.fd, fun b o e => X.keep b o (h b o e), X.led, fun p hp => no _ (X.mb p hp), X.md, X.gens, X.os, X.drawn⟩
/-- an entry is frozen -/
theorem St.freeze {a : Addr} {P : Obj → Prop} (X : St R B F ((a, P) :: μ) s) : ∃ B', Sub B B' ∧ (∃ o, B' a = some o ∧ P o) ∧ B a = none ∧ St R B' F μ s := by
  obtain ⟨o, ho, hP⟩ := X.led (a, P) (.head _)
  have hb := X.mb (a, P) (.head _)
  have md := X.md
  simp only [List.map_cons, List.nodup_cons] at md hb
  refine ⟨fun b => if b = a then some o else B b, fun b o' e => ?_, ⟨o, if_pos rfl, hP⟩, hb, ?_⟩
  · have : b ≠ a := fun q => by rw [q, hb] at e; cases e
    show (if b = a then some o else B b) = some o'
    rw [if_neg this]; exact e
  · refine ⟨X.fr, fun p hp => ?_, fun p hp q => X.fm p hp (.tail _ q), X.fd, fun b o' e => ?_, fun p hp => X.led p (.tail _ hp), fun p hp => ?_, md.2, X.gens, X.os, X.drawn⟩
    · have : p.1 ≠ a := fun q => X.fm p hp (q ▸ .head _)
      show (if p.1 = a then some o else B p.1) = none
      rw [if_neg this]; exact X.fb p hp
    · have e' : (if b = a then some o else B b) = some o' := e
      by_cases q : b = a
      · rw [if_pos q] at e'; cases e'; rw [q]; exact ho
      · rw [if_neg q] at e'; exact X.keep b o' e'
    · have : p.1 ≠ a := fun q => md.1 (q ▸ List.mem_map_of_mem hp)
      show (if p.1 = a then some o else B p.1) = none
      rw [if_neg this]; exact X.mb p (.tail _ hp)
/-- the ledger may be put into another order -/
theorem St.perm (X : St R B F μ s) (h : μ'.Perm μ) : St R B F μ' s :=
  ⟨X.fr, X.fb, fun p hp q => X.fm p hp ((h.map _).subset q), X.fd, X.keep, fun p hp => X.led p (h.subset hp), fun p hp => X.mb p (h.subset hp), ((h.map _).nodup_iff).mpr X.md, X.gens, X.os, X.drawn⟩
end

theorem Set1.front {a : Addr} {P P' : Obj → Prop} : ∀ {μ μ' : Led}, Set1 a P P' μ μ' → ∃ ν, ((a, P) :: ν).Perm μ ∧ ((a, P') :: ν).Perm μ'
  | _, _, .head (r := r) => ⟨r, .refl _, .refl _⟩
  | _, _, .tail (p := p) h => by
    obtain ⟨ν, h1, h2⟩ := h.front
    exact ⟨p :: ν, (List.Perm.swap _ _ _).trans (h1.cons p), (List.Perm.swap _ _ _).trans (h2.cons p)⟩
end text_LyA
section text_LyB
set_option maxRecDepth 100000

/-- what the top has left -/
structure Base (K : Frag) (B : BM) : Prop where
  kin : ∀ a o, K.lookup a = some o → B a = some o
  top : ∃ (H : Heap) (p : Program) (loose : List Str) (mean : ExcName → Option Value) (mg mb : NM), (∀ a o, H.get? a = some o → B a = some o) ∧ K.In H ∧ Top p loose mean mg mb H
theorem Base.sub {K : Frag} {B B' : BM} (h : Base K B) (hs : Sub B B') : Base K B' :=
  ⟨fun a o e => hs a o (h.kin a o e), let ⟨H, p, l, me, mg, mb, a, b, c⟩ := h.top; ⟨H, p, l, me, mg, mb, fun x o e => hs x o (a x o e), b, c⟩⟩

/-- room -/
structure Cx (A : Around) (n : Nat) : Prop where
  handled : A.handled = none
  depth : A.depth + n < recursionLimit
  units : A.units + 8 * n < cLine
theorem Cx.le {A : Around} {n k : Nat} (h : Cx A n) (hk : k ≤ n) : Cx A k := ⟨h.handled, by have := h.depth; (first | lia | omega), by have := h.units; (first | lia | omega)⟩
theorem Cx.deeper {A : Around} {n : Nat} (h : Cx A (n + 1)) (env : Env) : Cx (A.deeper env) n :=
  ⟨h.handled, by have := h.depth; show A.depth + 1 + n < _; (first | lia | omega), by have := h.units; show A.units + 3 + 8 * n < _; (first | lia | omega)⟩
theorem Cx.in1 {A : Around} {n : Nat} (h : Cx A (n + 1)) : Cx A.in1 n :=
  ⟨h.handled, by have := h.depth; show A.depth + n < _; (first | lia | omega), by have := h.units; show A.units + 1 + 8 * n < _; (first | lia | omega)⟩
theorem Cx.room {A : Around} {n : Nat} (h : Cx A n) : A.depth < recursionLimit := by have := h.depth; (first | lia | omega)
theorem Cx.cl {A : Around} {n : Nat} (h : Cx A n) : A.units < cLine := by have := h.units; (first | lia | omega)

noncomputable def put (m : NM) (x : Str) (v : Value) : NM := fun y => if y = x then some v else m y
theorem put_same {m : NM} {x : Str} {v : Value} : put m x v x = some v := if_pos rfl
theorem put_ne {m : NM} {x y : Str} {v : Value} {r : Option Value} (h : m y = r) (hn : y ≠ x) : put m x v y = r := (if_neg hn).trans h

/-- a list of data: each item stands for its datum -/
inductive All2 {α : Type} (rel : α → Value → Prop) : List α → List Value → Prop
  | nil : All2 rel [] []
  | cons {x v xs vs} : rel x v → All2 rel xs vs → All2 rel (x :: xs) (v :: vs)
namespace All2
variable {α : Type} {rel rel' : α → Value → Prop}
theorem length {xs : List α} {vs : List Value} (h : All2 rel xs vs) : vs.length = xs.length := by
  induction h with
  | nil => rfl
  | cons _ _ ih => simp [ih]
theorem get {xs : List α} {vs : List Value} (h : All2 rel xs vs) : ∀ {i : Nat} {x : α}, xs[i]? = some x → ∃ v, vs[i]? = some v ∧ rel x v := by
  induction h with
  | nil => intro i x e; simp at e
  | @cons y v ys us h1 _ ih =>
    intro i x e
    cases i with
    | zero => simp at e; subst e; exact ⟨v, rfl, h1⟩
    | succ i => simp at e; simpa using ih e
theorem getV {xs : List α} {vs : List Value} (h : All2 rel xs vs) : ∀ {i : Nat} {v : Value}, vs[i]? = some v → ∃ x, xs[i]? = some x ∧ rel x v := by
  induction h with
  | nil => intro i x e; simp at e
  | @cons y v ys us h1 _ ih =>
    intro i x e
    cases i with
    | zero => simp at e; subst e; exact ⟨y, rfl, h1⟩
    | succ i => simp at e; simpa using ih e
theorem set {xs : List α} {vs : List Value} (h : All2 rel xs vs) {x : α} {v : Value} (hv : rel x v) : ∀ i : Nat, All2 rel (xs.set i x) (vs.set i v) := by
  induction h with
  | nil => intro i; exact .nil
  | cons h1 h2 ih =>
    intro i
    cases i with
    | zero => exact .cons hv h2
    | succ i => exact .cons h1 (ih i)
theorem append {xs ys : List α} {vs us : List Value} (h : All2 rel xs vs) (h' : All2 rel ys us) : All2 rel (xs ++ ys) (vs ++ us) := by
  induction h with
  | nil => exact h'
  | cons h1 _ ih => exact .cons h1 ih
theorem snoc {xs : List α} {vs : List Value} (h : All2 rel xs vs) {x : α} {v : Value} (hv : rel x v) : All2 rel (xs ++ [x]) (vs ++ [v]) := h.append (.cons hv .nil)
theorem mono {xs : List α} {vs : List Value} (h : All2 rel xs vs) (hm : ∀ x v, rel x v → rel' x v) : All2 rel' xs vs := by
  induction h with
  | nil => exact .nil
  | cons h1 _ ih => exact .cons (hm _ _ h1) ih
theorem dropLast {xs : List α} {vs : List Value} (h : All2 rel xs vs) : All2 rel xs.dropLast vs.dropLast := by
  induction h with
  | nil => exact .nil
  | cons h1 h2 ih =>
    cases h2 with
    | nil => exact .nil
    | cons h3 h4 => exact .cons h1 ih
end All2

noncomputable def XL {α : Type} (rel : α → Value → Prop) (xs : List α) : Obj → Prop := fun o => ∃ vs, All2 rel xs vs ∧ IsL vs o
noncomputable def XT {α : Type} (rel : α → Value → Prop) (xs : List α) : Obj → Prop := fun o => ∃ vs, All2 rel xs vs ∧ IsT vs o
noncomputable def LAt {α : Type} (B : BM) (μ : Led) (a : Addr) (rel : α → Value → Prop) (xs : List α) : Prop := (∃ o, B a = some o ∧ XL rel xs o) ∨ (a, XL rel xs) ∈ μ
noncomputable def IntV (n : Int) (v : Value) : Prop := ∃ t, v = .int n t
noncomputable def BoolV (b : Bool) (v : Value) : Prop := v = .bool b
noncomputable def OptV (o : Option Int) (v : Value) : Prop := match o with | none => v = .none | some n => ∃ t, v = .int n t
/-- a frozen list -/
noncomputable def ListB {α : Type} (B : BM) (rel : α → Value → Prop) (xs : List α) (v : Value) : Prop := ∃ a o, v = .ref a ∧ B a = some o ∧ XL rel xs o
theorem XL.mono {α : Type} {rel rel' : α → Value → Prop} {xs : List α} {o : Obj} (h : XL rel xs o) (hm : ∀ x v, rel x v → rel' x v) : XL rel' xs o := let ⟨vs, a, b⟩ := h; ⟨vs, a.mono hm, b⟩
theorem ListB.sub {α : Type} {B B' : BM} {rel rel' : α → Value → Prop} {xs : List α} {v : Value} (h : ListB B rel xs v) (hs : Sub B B') (hm : ∀ x v, rel x v → rel' x v) : ListB B' rel' xs v := let ⟨a, o, e, q, r⟩ := h; ⟨a, o, e, hs _ _ q, r.mono hm⟩

section
variable {prog : Program} {w : World} {A : Around} {E : Value → Shared → Prop} {s : Shared} {env : Env} {R : Shared} {B : BM} {F : List (Addr × NM)} {μ μ' : Led} {L : Addr} {m : NM} {K : Frag}

theorem St.lst {α : Type} {rel : α → Value → Prop} {xs : List α} (X : St R B F μ s) {a : Addr} (h : LAt B μ a rel xs) : ∃ vs n, All2 rel xs vs ∧ s.heap.get? a = some (listOf vs.toArray n) := by
  rcases h with ⟨o, e, vs, r, n, z⟩ | e
  · exact ⟨vs, n, r, by rw [X.keep _ _ e, z]⟩
  · obtain ⟨o, ho, vs, r, n, z⟩ := X.get e
    exact ⟨vs, n, r, by rw [ho, z]⟩

/-- a name of the frame -/
theorem name_l {x : Str} {pos : Pos} {v : Value} {Q : Value → Shared → Prop} (hl : env.kindOf x = some .local) (X : St R B ((L, m) :: F) μ s) (hv : m x = some v) (h : Q v s)
    (hL : env.locals = L := by rfl) (hk : env.scope.kind = .function := by rfl) (hd : (x == ("__debug__" : Str)) = false := by decide) :
    wpAny (model prog w) A (eval (.Name x pos) env) Q E s :=
  wpAny_Name (wpAny_loadName_local hk hl (by rw [hL]; exact X.fr (L, m) (.head _)) hv h) hd
/-- a name in a cell -/
theorem name_c {x : Str} {pos : Pos} {v : Value} {c : Addr} {Q : Value → Shared → Prop} (hl : env.kindOf x = some .cell) (X : St R B F μ s) (hc : env.cells.lookup x = some c) (hv : (c, IsC (some v)) ∈ μ) (h : Q v s)
    (hk : env.scope.kind = .function := by rfl) (hd : (x == ("__debug__" : Str)) = false := by decide) :
    wpAny (model prog w) A (eval (.Name x pos) env) Q E s :=
  wpAny_Name (wpAny_loadName_cell hk hl hc (X.get hv) h) hd
theorem name_g {x : Str} {pos : Pos} {v : Value} {Q : Value → Shared → Prop} (hx : env.kindOf x = some .globalImplicit) (hB : Base K B) (X : St R B F μ s) (e : nsIn K mainGlobals x = some (some v)) (h : Q v s)
    (hg : env.globals = mainGlobals := by rfl) (hk : env.scope.kind = .function := by rfl) (hd : (x == ("__debug__" : Str)) = false := by decide) :
    wpAny (model prog w) A (eval (.Name x pos) env) Q E s := by
  obtain ⟨H, p, l, me, mg, mb, a, b, c⟩ := hB.top
  have hk' : ∀ y o, H.get? y = some o → s.heap.get? y = some o := fun y o e => X.keep y o (a y o e)
  exact Name_function_global hk hx (loadGlobal_global (env := env) (by rw [hg]; exact c.g.keeps hk') (mg_of b c.g e) h) hd
theorem name_b {x : Str} {pos : Pos} {v : Value} {Q : Value → Shared → Prop} (hx : env.kindOf x = some .globalImplicit) (hB : Base K B) (X : St R B F μ s) (e : nsIn K mainGlobals x = some none) (hv : bootBuiltins x = some v) (hn : x ≠ "__name__") (h : Q v s)
    (hg : env.globals = mainGlobals := by rfl) (hb : env.builtins = builtinsNs := by rfl) (hk : env.scope.kind = .function := by rfl) (hd : (x == ("__debug__" : Str)) = false := by decide) :
    wpAny (model prog w) A (eval (.Name x pos) env) Q E s := by
  obtain ⟨H, p, l, me, mg, mb, a, b, c⟩ := hB.top
  have hk' : ∀ y o, H.get? y = some o → s.heap.get? y = some o := fun y o e => X.keep y o (a y o e)
  exact Name_function_global hk hx (loadGlobal_builtin (env := env) (by rw [hg]; exact c.g.keeps hk') (mg_none_of b c.g e) (by rw [hb]; exact c.b.keeps hk') ((c.builtins x hn).trans hv) h) hd

theorem store_l {x : Str} {v : Value} {Q : Unit → Shared → Prop} (hl : env.kindOf x = some .local) (X : St R B ((L, m) :: F) μ s) (h : ∀ s', St R B ((L, put m x v) :: F) μ s' → Q () s')
    (hL : env.locals = L := by rfl)
    (hp : (env.scope.kind == .class || (env.scope.kind == .module && env.locals != env.globals)) = false := by rfl) :
    wpAny (model prog w) A (storeName env x v) Q E s :=
  wpAny_storeName_local hl (by rw [hL]; exact X.fr (L, m) (.head _)) (fun h' hn hs => h _ (X.store (by rw [hL] at hn; exact hn) (by rw [hL] at hs; exact hs))) hp
theorem store_c {x : Str} {v : Value} {v₀ : Option Value} {c : Addr} {Q : Unit → Shared → Prop} (hl : env.kindOf x = some .cell) (X : St R B F μ s) (hc : env.cells.lookup x = some c) (U : Set1 c (IsC v₀) (IsC (some v)) μ μ') (h : ∀ s', St R B F μ' s' → Q () s')
    (hk : env.scope.kind = .function := by rfl) : wpAny (model prog w) A (storeName env x v) Q E s :=
  wpAny_storeName_cell hk hl hc (X.get U.mem) fun h' hn hs => h _ (X.set1 (tk := s.toks) U hs hn)

theorem c_int {i : Int} {k : Nat} {pos : Pos} {Q : Value → Shared → Prop} (X : St R B F μ s) (h : ∀ t s', St R B F μ s' → Q (.int i t) s') : wpAny (model prog w) A (eval (.Constant (.int i) k pos) env) Q E s :=
  wpAny_Constant_int (h _ _ (X.toks _))

section
variable {a b : Int} {t u : Tok} {Q : Value → Shared → Prop}
theorem b_add (X : St R B F μ s) (h : ∀ t s', St R B F μ s' → Q (.int (a + b) t) s') : wpAny (model prog w) A (binaryOp .Add (.int a t) (.int b u)) Q E s := add_int (h _ _ (X.toks _))
theorem b_sub (X : St R B F μ s) (h : ∀ t s', St R B F μ s' → Q (.int (a - b) t) s') : wpAny (model prog w) A (binaryOp .Sub (.int a t) (.int b u)) Q E s := sub_int (h _ _ (X.toks _))
theorem b_mul2 (X : St R B F μ s) (h : ∀ t s', St R B F μ s' → Q (.int (2 * b) t) s') (hb : -(2 ^ 62) ≤ b) (hb' : b ≤ 2 ^ 62) : wpAny (model prog w) A (binaryOp .Mult (.int 2 t) (.int b u)) Q E s := mul_int (h _ _ (X.toks _))
theorem b_mod (X : St R B F μ s) (hb : b ≠ 0) (h : ∀ t s', St R B F μ s' → Q (.int (a.fmod b) t) s') : wpAny (model prog w) A (binaryOp .Mod (.int a t) (.int b u)) Q E s := mod_int' hb (h _ _ (X.toks _))
theorem b_shr (X : St R B F μ s) (hb : 0 ≤ b) (h : ∀ t s', St R B F μ s' → Q (.int (a.fdiv (2 ^ b.toNat)) t) s') : wpAny (model prog w) A (binaryOp .RShift (.int a t) (.int b u)) Q E s := rshift_int hb (h _ _ (X.toks _))
theorem b_shl (X : St R B F μ s) (hb : 0 ≤ b) (hb2 : b ≤ 1000000) (ha : a.natAbs < 2 ^ 64) (h : ∀ t s', St R B F μ s' → Q (.int (a * 2 ^ b.toNat) t) s') : wpAny (model prog w) A (binaryOp .LShift (.int a t) (.int b u)) Q E s := lshift_int_small hb hb2 ha (h _ _ (X.toks _))
theorem b_and (X : St R B F μ s) (h : ∀ t s', St R B F μ s' → Q (.int (Builtin.bitAnd a b) t) s') : wpAny (model prog w) A (binaryOp .BitAnd (.int a t) (.int b u)) Q E s := and_int (h _ _ (X.toks _))
theorem b_xor (X : St R B F μ s) (h : ∀ t s', St R B F μ s' → Q (.int (Builtin.bitXor a b) t) s') : wpAny (model prog w) A (binaryOp .BitXor (.int a t) (.int b u)) Q E s := xor_int (h _ _ (X.toks _))
theorem u_neg (X : St R B F μ s) (h : ∀ t s', St R B F μ s' → Q (.int (-a) t) s') : wpAny (model prog w) A (unaryOp .USub (.int a t)) Q E s := neg_int (h _ _ (X.toks _))
end

section
variable {α : Type} {rel : α → Value → Prop} {xs : List α} {x : α} {a : Addr} {k : Int} {u : Tok} {v : Value}
theorem isList_of {h : Heap} {vs : List Value} {n : Nat} (e : h.get? a = some (listOf vs.toArray n)) : h.IsList a vs.toArray := ⟨_, e, rfl, n, rfl⟩
/-- an item of a list -/
theorem get_x {value slice : Expr} {Q : Value → Shared → Prop} (X : St R B F μ s) (hl : LAt B μ a rel xs) (h0 : 0 ≤ k) (hfit : k < 2 ^ 63) (hx : xs[k.toNat]? = some x) (h : ∀ v, rel x v → Q v s)
    (hs : subscripted slice false (.ref a) (.int k u) = operate [.ref a, .int k u] (getItem (.ref a) (.int k u)) := by with_unfolding_all rfl) :
    wpAny (model prog w) A (subscriptTail value slice (.ref a) (.int k u)) Q E s := by
  obtain ⟨vs, n, r, e⟩ := X.lst hl
  obtain ⟨v, hv, q⟩ := r.get hx
  exact tail_any (isList_of e).typeIs slot_list_getitem.lookup (wpAny_getItem_list (isList_of e) h0 hfit (by simpa using hv) (h v q)) hs
theorem set_x {Q : Unit → Shared → Prop} (X : St R B F μ s) (U : Set1 a (XL rel xs) (XL rel (xs.set k.toNat x)) μ μ') (hv : rel x v) (h0 : 0 ≤ k) (hfit : k < 2 ^ 63) (hk : k < xs.length)
    (h : ∀ s', St R B F μ' s' → Q () s') : wpAny (model prog w) A (setItem (.ref a) (.int k u) v) Q E s := by
  obtain ⟨vs, n, r, e⟩ := X.lst (.inr U.mem)
  have hl := r.length
  refine ki_setAt e h0 hfit (by rw [List.size_toArray]; (first | lia | omega)) (h _ (X.set1 (tk := s.toks) U (Heap.SameBut.update ..) ?_))
  have q := PySem.IsL.update e fun x => x.setIfInBounds k.toNat v
  exact ⟨_, q, _, r.set hv k.toNat, _, by simp; rfl⟩
theorem append_x {Q : Value → Shared → Prop} (X : St R B F μ s) (U : Set1 a (XL rel xs) (XL rel (xs ++ [x])) μ μ') (hv : rel x v) (hz : xs.length ≤ 1000) (h : ∀ s', St R B F μ' s' → Q .none s') :
    wpAny (model prog w) A (call (.builtin "list.append") [.ref a, v]) Q E s := by
  obtain ⟨vs, n, r, e⟩ := X.lst (.inr U.mem)
  have hl := r.length
  refine wpAny_list_append_plain ⟨n, e⟩ (fun h' hl hs => h _ (X.set1 (tk := s.toks) U hs ?_)) (by rw [sizeLine_eq, List.size_toArray]; (first | lia | omega))
  obtain ⟨n', e'⟩ := hl
  exact ⟨_, e', vs ++ [v], r.snoc hv, n', by simp⟩
theorem len_x {Q : Value → Shared → Prop} (X : St R B F μ s) (hl : LAt B μ a rel xs) (hz : xs.length ≤ 1000) (h : ∀ t s', St R B F μ s' → Q (.int xs.length t) s') :
    wpAny (model prog w) A (call (.builtin "len") [.ref a]) Q E s := by
  obtain ⟨vs, n, r, e⟩ := X.lst hl
  have hl := r.length
  exact len_list (isList_of e) (by rw [List.size_toArray]; (first | lia | omega)) (by rw [List.size_toArray, hl]; exact h _ _ (X.toks _))
theorem truthy_x {Q : Bool → Shared → Prop} (X : St R B F μ s) (hl : LAt B μ a rel xs) (hz : xs.length ≤ 1000) (h : ∀ s', St R B F μ s' → Q (!xs.isEmpty) s') : wpAny (model prog w) A (truthy (.ref a)) Q E s := by
  obtain ⟨vs, n, r, e⟩ := X.lst hl
  have hl := r.length
  have e2 : vs.toArray.isEmpty = xs.isEmpty := by cases r <;> simp
  exact wpAny_truthy_list (isList_of e) (by rw [List.size_toArray]; (first | lia | omega)) (by rw [e2]; exact h _ (X.toks _))
theorem meth_x {name : Str} {id : String} {pl : Sem Bool} {Q : Value × List Value → Shared → Prop} (X : St R B F μ s) (hl : LAt B μ a rel xs) (slot : Slot "list" name id) (hty : typeOf (.builtin id) = pure (.type "method_descriptor"))
    (h : Q (.builtin id, [.ref a]) s) : wpAny (model prog w) A (getMethod (.ref a) name pl) Q E s := by
  obtain ⟨vs, n, r, e⟩ := X.lst hl
  exact getMethod_builtin ⟨_, e, rfl⟩ PySem.F.plainAttrs_list slot hty (fun b q => by cases q; exact ⟨_, e, rfl⟩) h
theorem pop_x {Q : Value → Shared → Prop} (X : St R B F μ s) (U : Set1 a (XL rel xs) (XL rel xs.dropLast) μ μ') (hx : xs.getLast? = some x) (hz : xs.length ≤ 1000) (h : ∀ v s', rel x v → St R B F μ' s' → Q v s') :
    wpAny (model prog w) A (call (.builtin "list.pop") [.ref a]) Q E s := by
  obtain ⟨vs, n, r, e⟩ := X.lst (.inr U.mem)
  have hl := r.length
  have hx' : xs[xs.length - 1]? = some x := by rw [← List.getLast?_eq_getElem?]; exact hx
  obtain ⟨v, hv, q⟩ := r.get hx'
  have hpos : 0 < xs.length := by
    cases xs with
    | nil => simp at hx
    | cons => simp
  have hv' : vs.toArray[vs.toArray.size - 1]? = some v := by simpa [hl] using hv
  refine call_meets PySem.F.slot_list_pop ⟨_, e, rfl⟩ PySem.F.entry_list_pop (PySem.F.args_list_pop_1 _) (PySem.MeetsSeq.list_pop_last a _ n v hv' (by rw [sizeLine_eq, List.size_toArray]; (first | lia | omega))) ⟨e, h v _ q (X.set1 (tk := s.toks) U (Heap.SameBut.update ..) ?_)⟩
  have z := PySem.IsL.update e fun x => x.eraseIdxIfInBounds (vs.toArray.size - 1)
  have e3 : vs.toArray.eraseIdxIfInBounds (vs.toArray.size - 1) = vs.dropLast.toArray := by
    have hne : vs ≠ [] := by intro q; rw [q] at hl; simp at hl; (first | lia | omega)
    have q := kl_erase vs.dropLast [] (vs.getLast hne)
    rw [List.append_nil, List.dropLast_concat_getLast hne, List.length_dropLast] at q
    rw [List.size_toArray]; exact q
  rw [e3] at z
  exact ⟨_, z, vs.dropLast, r.dropLast, _, rfl⟩
end

noncomputable abbrev retV (fl : Flow) : Value := match fl with | .ret v => v | _ => .none
/-- a call of the text's own def -/
theorem call_fn {n : Nat} {Q : Value → Shared → Prop} {name qual : Str} {params : Arguments} {body : List Stmt} {scope : Scope} {dV kV doc pm cdv ct oc : Value} {an od : Option Addr} {osl : Array (Option Value)} {f : Addr} {pos : List Value} {kw : List (Str × Value)} {binds : List (Str × Value)}
    (hB : Base K B) (hA : Cx A (n + 1)) (X : St R B F μ s)
    (ho : K.lookup f = some ⟨oc, od, .func (fnOf name qual params body scope dV kV doc pm an cdv ct), osl⟩) (hcd : codeIn K cdv qual = true)
    (hbind : BindsTo s (fnOf name qual params body scope dV kV doc pm an cdv ct) ⟨pos, kw⟩ binds) (hloc : ∀ y ∈ binds, scope.names.lookup y.1 = some .local)
    (h : ∀ L A' s₁, Cx A' n → A'.frames = A.frames.map (envOf qual scope L f cdv :: ·) → St R B ((L, fun y => binds.reverse.lookup y) :: F) μ s₁ →
      ∀ En : Value → Shared → Prop, wpAny (model prog w) A' (execs body (envOf qual scope L f cdv)) (fun fl s' => Q (retV fl) s') En s₁)
    (hco : scope.isCoroutine = false := by rfl) (hgen : scope.isGenerator = false := by rfl) (hk : scope.kind = .function := by rfl) (hcell : ∀ x ∈ scope.names, x.2 ≠ .cell := by decide) :
    wpAny (model prog w) A (call (.ref f) pos kw) Q E s := by
  obtain ⟨H, p, l, me, mg, mb, a, b, c⟩ := hB.top
  have hk' : ∀ y o, H.get? y = some o → s.heap.get? y = some o := fun y o e => X.keep y o (a y o e)
  have KX : K.In s.heap := fun y o e => hk' _ _ (b y o e)
  refine wpAny_call (codeAny_call_def (fd := fnOf name qual params body scope dV kV doc pm an cdv ct) (body := body) (binds := binds) hA.room (KX _ _ ho) rfl (c.nolimit.keeps hk') (codeRec_of KX hcd) rfl hbind hcell hloc (fun h₁ hns hk₁ => ?_) hco hgen hk)
  exact h _ _ _ (hA.deeper _) rfl (X.enter hns hk₁) _
end
end text_LyB
section text_LyC
set_option maxRecDepth 100000

section
variable {prog : Program} {w : World} {A : Around} {E : Value → Shared → Prop} {s : Shared} {env : Env} {R : Shared} {B : BM} {F : List (Addr × NM)} {μ μ' : Led} {L : Addr} {m : NM} {K : Frag}

noncomputable def ltP (x y : Int × Int) : Bool := decide (x.1 < y.1) || (x.1 == y.1 && decide (x.2 < y.2))

noncomputable def pairObj (x : Int × Int) (t u : Tok) (n : Nat) : Obj := { cls := .type "tuple", data := .seq #[.int x.1 t, .int x.2 u] n }
/-- a value that is a frozen pair of ints -/
noncomputable def PairB (B : BM) (x : Int × Int) (v : Value) : Prop := ∃ a t u n, v = .ref a ∧ B a = some (pairObj x t u n)
theorem PairB.sub {B B' : BM} {x : Int × Int} {v : Value} (h : PairB B x v) (hs : Sub B B') : PairB B' x v := let ⟨a, t, u, n, e, q⟩ := h; ⟨a, t, u, n, e, hs _ _ q⟩

theorem lt_tree {a b : Addr} {x y : Int × Int} {ta ua tb ub : Tok} {na nb : Nat} {P : PySem.Fin → Shared → Prop} (ha : s.heap.get? a = some (pairObj x ta ua na)) (hb : s.heap.get? b = some (pairObj y tb ub nb))
    (h : P (.done (.ret (.bool (ltP x y)))) s) : wpAny (model prog w) A (Builtin.«tuple.__lt__» ⟨[.ref a, .ref b], []⟩) P E s := by
  show wpAny _ _ (isInstance (.ref b) (.type "tuple") >>= _) _ _ s
  refine wpAny_bind (wpAny_isInstance (show s.TypeIs (.ref b) "tuple" from ⟨_, hb, rfl⟩) isSubtype_tuple_tuple ?_)
  simp only [Bool.not_true, Bool.false_eq_true, if_false]
  refine wpAny_bind (wpAny_tupleItemsOf ha rfl ?_)
  refine wpAny_bind (wpAny_tupleItemsOf hb rfl ?_)
  simp only [List.zip_cons_cons, List.zip_nil_left, List.forIn_cons, List.forIn_nil, bind_assoc]
  refine wpAny_bind (wpAny_eqBool_int ?_)
  unfold ltP at h
  by_cases e1 : x.1 = y.1
  · rw [beq_iff_eq.mpr e1] at h ⊢
    simp only [Bool.not_true, Bool.false_eq_true, if_false, pure_bind]
    refine wpAny_bind (wpAny_bind (wpAny_eqBool_int ?_))
    by_cases e2 : x.2 = y.2
    · rw [beq_iff_eq.mpr e2]
      simp only [Bool.not_true, Bool.false_eq_true, if_false, pure_bind]
      have z : (decide (x.1 < y.1) || true && decide (x.2 < y.2)) = false := by simp; (first | lia | omega)
      rw [z] at h
      exact wpAny_pure (wpAny_pure h)
    · rw [beq_eq_false_iff_ne.mpr e2]
      simp only [Bool.not_false, if_true, bind_assoc, pure_bind]
      refine wpAny_bind (wpAny_rule ?_)
      refine wpAny_bind (lt_int (a := x.2) (b := y.2) ?_)
      have z : (decide (x.1 < y.1) || true && decide (x.2 < y.2)) = decide (x.2 < y.2) := by
        have : decide (x.1 < y.1) = false := by simp; (first | lia | omega)
        rw [this]; simp
      rw [z] at h
      exact wpAny_bind (wpAny_pure (wpAny_pure (wpAny_pure h)))
  · rw [beq_eq_false_iff_ne.mpr e1] at h ⊢
    simp only [Bool.not_false, if_true, bind_assoc, pure_bind]
    refine wpAny_bind (wpAny_rule ?_)
    refine wpAny_bind (lt_int (a := x.1) (b := y.1) ?_)
    simp only [Bool.false_and, Bool.or_false] at h
    exact wpAny_bind (wpAny_pure (wpAny_pure h))

theorem lt_pair {v u : Value} {x y : Int × Int} {n : Nat} {Q : Value → Shared → Prop} (hA : Cx A n) (X : St R B F μ s) (ha : PairB B x v) (hb : PairB B y u) (h : Q (.bool (ltP x y)) s) :
    wpAny (model prog w) A (compareOp .Lt v u) Q E s := by
  obtain ⟨a, ta, ua, na, rfl, ea⟩ := ha
  obtain ⟨b, tb, ub, nb, rfl, eb⟩ := hb
  have ea' := X.keep _ _ ea
  have eb' := X.keep _ _ eb
  show wpAny _ _ (richCompare .Lt (.ref a) (.ref b)) Q E s
  have Ta : s.TypeIs (.ref a) "tuple" := ⟨_, ea', rfl⟩
  have Tb : s.TypeIs (.ref b) "tuple" := ⟨_, eb', rfl⟩
  exact wpAny_richCompare_same_room Ta Tb PySem.F.slot_tuple_lt (wpAny_call_entry PySem.F.slot_tuple_lt Ta PySem.F.entry_tuple_lt (lt_tree ea' eb' ⟨_, rfl, by simp, h⟩) (PySem.F.args_tuple_lt_2 _ _)) hA.cl
end
end text_LyC
section text_LyD
set_option maxRecDepth 100000

theorem Base.inH {K : Frag} {B : BM} {R : Shared} {F : List (Addr × NM)} {μ : Led} {s : Shared} (hB : Base K B) (X : St R B F μ s) : K.In s.heap := fun a o e => X.keep _ _ (hB.kin a o e)

section
variable {prog : Program} {w : World} {A : Around} {E : Value → Shared → Prop} {s : Shared} {env : Env} {R : Shared} {B : BM} {F : List (Addr × NM)} {μ μ' : Led} {L : Addr} {m : NM} {K : Frag} {Q : Value → Shared → Prop}

theorem cw_fn {pos : Pos} {f : Value} {first : List Value} {e : Expr} {rest : List Expr} (hB : Base K B) (X : St R B F μ s) (hk : keepIn K f = true) (h : wpAny (model prog w) A (spliced (backTo pos (starEach (e :: rest) env))) (fun vs s₁ => K.In s₁.heap ∧ wpAny (model prog w) A (call f (first ++ vs)) Q E s₁) E s)
    (he : starEach (e :: rest) env = (false, eval e env) :: starEach rest env := by rfl) (hplain : (backTo pos (starEach rest env)).any (·.1) = false := by rfl) :
    wpAny (model prog w) A (callWith pos f first (backTo pos (starEach (e :: rest) env)) []) Q E s := callWith_K (hB.inH X) hk h he hplain
theorem cw_fn0 {pos : Pos} {f : Value} {first : List Value} (hB : Base K B) (X : St R B F μ s) (hk : keepIn K f = true) (h : wpAny (model prog w) A (call f (first ++ [])) Q E s) : wpAny (model prog w) A (callWith pos f first (backTo pos (starEach [] env)) []) Q E s :=
  callWith_K0 (hB.inH X) hk h
theorem cw_b {pos : Pos} {id : String} {first : List Value} {e : Expr} {rest : List Expr} (h : wpAny (model prog w) A (spliced (backTo pos (starEach (e :: rest) env))) (fun vs s₁ => wpAny (model prog w) A (call (.builtin id) (first ++ vs)) Q E s₁) E s)
    (he : starEach (e :: rest) env = (false, eval e env) :: starEach rest env := by rfl) (hplain : (backTo pos (starEach rest env)).any (·.1) = false := by rfl) :
    wpAny (model prog w) A (callWith pos (.builtin id) first (backTo pos (starEach (e :: rest) env)) []) Q E s := by
  rw [he] at h ⊢
  exact callWith_builtin (by show (false || (backTo pos (starEach rest env)).any (·.1)) = false; rw [hplain]; rfl) (evalArgs_plain h)
theorem cw_b0 {pos : Pos} {id : String} {first : List Value} (h : wpAny (model prog w) A (call (.builtin id) (first ++ [])) Q E s) : wpAny (model prog w) A (callWith pos (.builtin id) first (backTo pos (starEach [] env)) []) Q E s :=
  callWith_builtin rfl (evalArgs_nil3 h)

theorem newTup_ {vs : List Value} {P : Obj → Prop} (X : St R B F μ s) (hP : ∀ n, P { cls := .type "tuple", data := .seq vs.toArray n }) (hz : vs.length ≤ 1000) (h : ∀ a s', St R B F ((a, P) :: μ) s' → Q (.ref a) s') : wpAny (model prog w) A (newTuple vs) Q E s :=
  wpAny_newTuple (h _ _ (X.new (tk := s.toks) (hP _))) (by rw [sizeLine_eq]; (first | lia | omega))
theorem newLst_ {vs : List Value} {P : Obj → Prop} (X : St R B F μ s) (hP : ∀ n, P (listOf vs.toArray n)) (hz : vs.length ≤ 1000) (h : ∀ a s', St R B F ((a, P) :: μ) s' → Q (.ref a) s') : wpAny (model prog w) A (newList vs) Q E s :=
  wpAny_newList (h _ _ (X.new (tk := s.toks) (hP _))) (by rw [sizeLine_eq]; (first | lia | omega))
end
theorem seq_mid {M : Model} {A : Around} {E : Value → Shared → Prop} {s : Shared} {env : Env} {st : Stmt} {rest : List Stmt} {Q : Flow → Shared → Prop} (mid : Shared → Prop) (h1 : wpAny M A (exec st env) (fun f s' => f = .next ∧ mid s') E s)
    (h2 : ∀ s', mid s' → wpAny M A (execs rest env) Q E s') : wpAny M A (execs (st :: rest) env) Q E s :=
  wpAny_execs_cons (wpAny_mono h1 (fun f s' h => by obtain ⟨rfl, h⟩ := h; exact h2 s' h) fun _ _ h => h)
theorem ite_both {c : Prop} [Decidable c] {p q : Prop} (h1 : c → p) (h2 : ¬ c → q) : if c then p else q := by split <;> simp_all
end text_LyD
section text_LyE
set_option maxRecDepth 100000
set_option maxHeartbeats 1000000

section
variable {R : Shared} {B B' : BM} {F : List (Addr × NM)} {μ μ' : Led} {s : Shared}

/-- the entry at the head may turn; all else stands -/
theorem St.ext1 {a : Addr} {P P' : Obj → Prop} (X : St R B F ((a, P) :: μ) s) {h' : Heap} {tk : Nat} (hk : ∀ b o, b ≠ a → s.heap.get? b = some o → h'.get? b = some o) (hp : ∃ o, h'.get? a = some o ∧ P' o) :
    St R B F ((a, P') :: μ) { s with heap := h', toks := tk } := by
  have hb := X.mb (a, P) (.head _)
  have md := X.md
  simp only [List.map_cons, List.nodup_cons] at md hb
  refine ⟨fun p q => ?_, X.fb, X.fm, X.fd, fun b o e => ?_, fun p q => ?_, fun p q => ?_, X.md, X.gens, X.os, X.drawn⟩
  · obtain ⟨o, es, ep, ho, r⟩ := X.fr p q
    have : p.1 ≠ a := fun e => X.fm p q (e ▸ .head _)
    exact ⟨o, es, ep, hk _ _ this ho, r⟩
  · have : b ≠ a := fun q => by rw [q, hb] at e; cases e
    exact hk _ _ this (X.keep b o e)
  · rcases List.mem_cons.mp q with rfl | q
    · exact hp
    · obtain ⟨o, ho, z⟩ := X.led p (.tail _ q)
      have : p.1 ≠ a := fun e => md.1 (e ▸ List.mem_map_of_mem q)
      exact ⟨o, hk _ _ this ho, z⟩
  · rcases List.mem_cons.mp q with rfl | q
    · exact hb
    · exact X.mb p (.tail _ q)
theorem St.extDrop {a : Addr} {P : Obj → Prop} (X : St R B F ((a, P) :: μ) s) {h' : Heap} {tk : Nat} (hk : ∀ b o, b ≠ a → s.heap.get? b = some o → h'.get? b = some o) : St R B F μ { s with heap := h', toks := tk } := by
  have hb := X.mb (a, P) (.head _)
  have md := X.md
  simp only [List.map_cons, List.nodup_cons] at md hb
  refine ⟨fun p q => ?_, X.fb, fun p q z => X.fm p q (.tail _ z), X.fd, fun b o e => ?_, fun p q => ?_, fun p q => X.mb p (.tail _ q), md.2, X.gens, X.os, X.drawn⟩
  · obtain ⟨o, es, ep, ho, r⟩ := X.fr p q
    have : p.1 ≠ a := fun e => X.fm p q (e ▸ .head _)
    exact ⟨o, es, ep, hk _ _ this ho, r⟩
  · have : b ≠ a := fun q => by rw [q, hb] at e; cases e
    exact hk _ _ this (X.keep b o e)
  · obtain ⟨o, ho, z⟩ := X.led p (.tail _ q)
    have : p.1 ≠ a := fun e => md.1 (e ▸ List.mem_map_of_mem q)
    exact ⟨o, hk _ _ this ho, z⟩
/-- a frame goes, its names change -/
theorem St.leaveBut {C : Addr} {m : NM} (X : St R B ((C, m) :: F) μ s) {h' : Heap} {tk : Nat} (hs : Heap.SameBut C s.heap h') : St R B F μ { s with heap := h', toks := tk } := by
  have nd := X.fd
  simp only [List.map_cons, List.nodup_cons] at nd
  refine ⟨fun p q => (X.fr p (.tail _ q)).sameBut hs fun e => nd.1 (e ▸ List.mem_map_of_mem q), fun p q => X.fb p (.tail _ q), fun p q => X.fm p (.tail _ q), nd.2, fun b o e => ?_, fun p q => ?_, X.mb, X.md, X.gens, X.os, X.drawn⟩
  · have : b ≠ C := fun q => by have := X.fb (C, m) (.head _); simp only [] at this; rw [← q, e] at this; cases this
    exact (hs.2 b this).trans (X.keep b o e)
  · obtain ⟨o, ho, z⟩ := X.led p q
    have : p.1 ≠ C := fun e => X.fm (C, m) (.head _) (e ▸ List.mem_map_of_mem q)
    exact ⟨o, (hs.2 _ this).trans ho, z⟩
theorem St.swapF {f g : Addr × NM} (X : St R B (f :: g :: F) μ s) : St R B (g :: f :: F) μ s := by
  have p : (g :: f :: F).Perm (f :: g :: F) := .swap ..
  exact ⟨fun q hq => X.fr q (p.subset hq), fun q hq => X.fb q (p.subset hq), fun q hq => X.fm q (p.subset hq), ((p.map _).nodup_iff).mpr X.fd, X.keep, X.led, X.mb, X.md, X.gens, X.os, X.drawn⟩
/-- a frozen object is let into the ledger again -/
theorem St.thaw {a : Addr} {o : Obj} {P : Obj → Prop} (X : St R B' F μ s) (hs : Sub B B') (hb : B a = none) (ho : B' a = some o) (hP : P o) : St R B F ((a, P) :: μ) s := by
  have Y := X.less hs
  refine ⟨Y.fr, Y.fb, fun p q z => ?_, Y.fd, Y.keep, fun p q => ?_, fun p q => ?_, ?_, Y.gens, Y.os, Y.drawn⟩
  · rcases List.mem_cons.mp z with e | e
    · have h1 := X.fb p q
      have e' : p.1 = a := e
      rw [e', ho] at h1; cases h1
    · exact Y.fm p q e
  · rcases List.mem_cons.mp q with rfl | q
    · exact ⟨o, X.keep _ _ ho, hP⟩
    · exact Y.led p q
  · rcases List.mem_cons.mp q with rfl | q
    · exact hb
    · exact Y.mb p q
  · simp only [List.map_cons, List.nodup_cons]
    refine ⟨fun z => ?_, Y.md⟩
    obtain ⟨p, hp, e⟩ := List.mem_map.mp z
    have h1 := X.mb p hp
    rw [e, ho] at h1; cases h1
end

noncomputable def ItP (o : Obj) : Obj → Prop := fun x => x = o
/-- an iterator at its i-th turn -/
noncomputable def IterAt (T : String) (prog : Program) (w : World) (A : Around) (B : BM) (I : Addr) (n : Nat) (P : Nat → Value → Prop) (i : Nat) (h : Heap) : Prop :=
  ∃ fp Stt, Walks prog w A I fp [I] n P Stt ∧ (∀ b ∈ fp, b = I ∨ ∃ o, B b = some o) ∧ (∀ i h, Stt i h → ∃ o, h.get? I = some o ∧ o.cls = .type T) ∧ Stt i h

section
variable {prog : Program} {w : World} {A : Around} {E : Value → Shared → Prop} {s : Shared} {env : Env} {R : Shared} {B B' : BM} {F : List (Addr × NM)} {μ μ' : Led} {L I : Addr} {m : NM} {K : Frag} {n i : Nat} {P : Nat → Value → Prop} {o : Obj} {T : String}

theorem IterAt.sub {h : Heap} (W : IterAt T prog w A B I n P i h) (hs : Sub B B') : IterAt T prog w A B' I n P i h :=
  let ⟨fp, St', W', hf, ho, st⟩ := W; ⟨fp, St', W', fun b hb => (hf b hb).imp id fun ⟨o, e⟩ => ⟨o, hs _ _ e⟩, ho, st⟩
theorem IterAt.keep {s' : Shared} {F' : List (Addr × NM)} {μ'' : Led} (TT : IterAt T prog w A B I n P i s.heap) (X : St R B F ((I, ItP o) :: μ) s) (X' : St R B F' ((I, ItP o) :: μ'') s') : IterAt T prog w A B I n P i s'.heap := by
  obtain ⟨fp, St', W, hf, ho, st⟩ := TT
  refine ⟨fp, St', W, hf, ho, W.frame _ _ _ st fun b hb o' e => ?_⟩
  rcases hf b hb with rfl | ⟨q, hq⟩
  · obtain ⟨o1, h1, z1⟩ := X.led (b, ItP o) (.head _)
    obtain ⟨o2, h2, z2⟩ := X'.led (b, ItP o) (.head _)
    have z1' : o1 = o := z1
    have z2' : o2 = o := z2
    simp only [] at h1 h2
    rw [e] at h1; cases h1
    rw [h2, z1', z2']
  · have h1 := X.keep _ _ hq
    rw [e] at h1; cases h1
    exact X'.keep _ _ hq
theorem next_item {Q : Option Value → Shared → Prop} (X : St R B F ((I, ItP o) :: μ) s) (TT : IterAt T prog w A B I n P i s.heap) (hi : i < n)
    (h : ∀ v o' s', P i v → IterAt T prog w A B I n P (i + 1) s'.heap → St R B F ((I, ItP o') :: μ) s' → Q (some v) s') : wpAny (model prog w) A (pyNext (.ref I)) Q E s := by
  obtain ⟨fp, St', W, hf, ho, st⟩ := TT
  refine W.item i s Q E hi st fun v h' tk hP st' hk => ?_
  obtain ⟨o', e, _⟩ := ho _ _ st'
  exact h v o' _ hP ⟨fp, St', W, hf, ho, st'⟩ (X.ext1 (fun b o hb e => hk b o (by simpa using hb) e) ⟨o', e, rfl⟩)
theorem next_done {Q : Option Value → Shared → Prop} (X : St R B F ((I, ItP o) :: μ) s) (TT : IterAt T prog w A B I n P n s.heap) (h : ∀ s', St R B F μ s' → Q none s') : wpAny (model prog w) A (pyNext (.ref I)) Q E s := by
  obtain ⟨fp, St', W, hf, ho, st⟩ := TT
  exact W.done s Q E st fun h' tk hk => h _ (X.extDrop fun b o hb e => hk b o (by simpa using hb) e)
theorem IterAt.self {Q : Value → Shared → Prop} (TT : IterAt T prog w A B I n P i s.heap) (h : Q (.ref I) s) : wpAny (model prog w) A (pyIter (.ref I)) Q E s := by
  obtain ⟨fp, St', W, hf, ho, st⟩ := TT
  exact W.self i s Q E st h

/-- iterators -/
theorem it_list {l : Addr} {vs : List Value} {c : Nat} {Q : Value → Shared → Prop} (hA : A.handled = none) (X : St R B F μ s) (hl : B l = some (listOf vs.toArray c))
    (h : ∀ I o s', IterAt "list_iterator" prog w A B I vs.length (fun i v => vs[i]? = some v) 0 s'.heap → St R B F ((I, ItP o) :: μ) s' → Q (.ref I) s') : wpAny (model prog w) A (pyIter (.ref l)) Q E s := by
  have e := X.keep _ _ hl
  refine wpAny_pyIter_list (isList_of e) (h s.heap.objs.size { cls := .type "list_iterator", data := .fields #[.ref l, .int 0 0] } _ ?_ (X.new (tk := s.toks) rfl))
  have hne : l ≠ s.heap.objs.size := Nat.ne_of_lt (Heap.lt_size e)
  have W := Walks.list (prog := prog) (w := w) hA s.heap.objs.size l hne vs.toArray
  simp only [List.getElem?_toArray, List.size_toArray] at W
  refine ⟨_, _, W, fun b hb => ?_, fun i h st => ?_, ⟨⟨_, Heap.get?_push_size _ rfl, rfl, rfl⟩, isList_of (Heap.get?_push_of_some _ e)⟩⟩
  · simp at hb; exact hb.imp id fun e' => ⟨_, e' ▸ hl⟩
  · obtain ⟨⟨o, ho, hc, _⟩, _⟩ := st; exact ⟨o, ho, hc⟩
theorem it_tuple {l : Addr} {vs : List Value} {c : Nat} {Q : Value → Shared → Prop} (hA : A.handled = none) (X : St R B F μ s) (hl : B l = some { cls := .type "tuple", data := .seq vs.toArray c })
    (h : ∀ I o s', IterAt "tuple_iterator" prog w A B I vs.length (fun i v => vs[i]? = some v) 0 s'.heap → St R B F ((I, ItP o) :: μ) s' → Q (.ref I) s') : wpAny (model prog w) A (pyIter (.ref l)) Q E s := by
  have e := X.keep _ _ hl
  have hT : s.heap.IsTuple l vs.toArray := ⟨_, e, rfl, c, rfl⟩
  refine wpAny_pyIter_tuple hT (h s.heap.objs.size { cls := .type "tuple_iterator", data := .fields #[.ref l, .int 0 0] } _ ?_ (X.new (tk := s.toks) rfl))
  have hne : l ≠ s.heap.objs.size := Nat.ne_of_lt (Heap.lt_size e)
  have W := Walks.tuple (prog := prog) (w := w) hA s.heap.objs.size l hne vs.toArray
  simp only [List.getElem?_toArray, List.size_toArray] at W
  refine ⟨_, _, W, fun b hb => ?_, fun i h st => ?_, ⟨⟨_, Heap.get?_push_size _ rfl, rfl, rfl⟩, ⟨_, Heap.get?_push_of_some _ e, rfl, c, rfl⟩⟩⟩
  · simp at hb; exact hb.imp id fun e' => ⟨_, e' ▸ hl⟩
  · obtain ⟨⟨o, ho, hc, _⟩, _⟩ := st; exact ⟨o, ho, hc⟩

theorem go_name {x : Str} {px : Pos} {v : Value} {Q' : Unit → Shared → Prop} {E' : Value → Shared → Prop} (h : Q' () s) : wpAny (model prog w) A (letOwnedTupleGo (.Name x px) (.ref I) v) Q' E' s := wpAny_pure h
theorem go_tup {elts : List Expr} {x1 : Nat} {pos : Pos} {v : Value} {Q' : Unit → Shared → Prop} {E' : Value → Shared → Prop} (hT : T = "list_iterator") (hi : ∃ o, s.heap.get? I = some o ∧ o.cls = .type T) (h : Q' () s) :
    wpAny (model prog w) A (letOwnedTupleGo (.Tuple elts x1 pos) (.ref I) v) Q' E' s := by
  subst hT
  obtain ⟨⟨c, d, data, sl⟩, ho, hc⟩ := hi
  simp only at hc
  subst hc
  cases v with
  | ref a =>
    unfold letOwnedTupleGo
    refine wpAny_bind (wpAny_load ho ?_)
    cases data with
    | fields vs =>
      show wpAny _ A (if (["enumerate", "zip", "dict_itemiterator", "dict_reverseitemiterator", "odict_iterator", "itertools.zip_longest", "itertools.pairwise"].contains "list_iterator" && vs[0]? == some (rawInt a)) = true then _ else _) Q' E' s
      rw [if_neg (by
        intro h
        rw [show (["enumerate", "zip", "dict_itemiterator", "dict_reverseitemiterator", "odict_iterator", "itertools.zip_longest", "itertools.pairwise"].contains "list_iterator") = false from by decide, Bool.false_and] at h
        cases h)]
      exact wpAny_pure h
    | _ => exact wpAny_pure h
  | _ => exact wpAny_pure h

inductive NextP (R : Shared) (B : BM) (L : Addr) (F : List (Addr × NM)) (I : Addr) (o : Obj) (J : BM → NM → Led → Prop) (s₃ : Shared) : Prop
  | mk (B'' : BM) (m'' : NM) (μ'' : Led) (hs : Sub B B'') (X : St R B'' ((L, m'') :: F) ((I, ItP o) :: μ'') s₃) (hJ : J B'' m'' μ'') : NextP R B L F I o J s₃
noncomputable abbrev LoopPost (R : Shared) (B : BM) (L : Addr) (F : List (Addr × NM)) (I : Addr) (o : Obj) (J : BM → NM → Led → Prop) (R' : Result → Shared → Prop) (f : Flow) (s₃ : Shared) : Prop :=
  match f with
  | .next | .cont => NextP R B L F I o J s₃
  | .brk => R' (.ok .next) s₃
  | .ret v => R' (.ok (.ret v)) s₃
theorem for_x {target : Expr} {body : List Stmt} {R' : Result → Shared → Prop} (J : Nat → BM → NM → Led → Prop)
    (TT : IterAt T prog w A B I n P 0 s.heap) (X : St R B ((L, m) :: F) ((I, ItP o) :: μ) s) (h0 : J 0 B m μ)
    (hgo : ∀ v s' (Q' : Unit → Shared → Prop) E', (∃ o, s'.heap.get? I = some o ∧ o.cls = .type T) → Q' () s' → wpAny (model prog w) A (letOwnedTupleGo target (.ref I) v) Q' E' s')
    (turn : ∀ i v B' m' μ' o' s' E', i < n → P i v → Sub B B' → J i B' m' μ' → St R B' ((L, m') :: F) ((I, ItP o') :: μ') s' →
      ∀ Qn : Flow → Shared → Prop, (∀ f s₃, LoopPost R B' L F I o' (J (i + 1)) R' f s₃ → Qn f s₃) →
      wpAny (model prog w) A (assign target env v) (fun _ s₂ => wpAny (model prog w) A (execs body env) Qn E' s₂) E' s')
    (done : ∀ B' m' μ' s', Sub B B' → J n B' m' μ' → St R B' ((L, m') :: F) μ' s' → R' (.ok .next) s') :
    codeAny (model prog w) A (.forLoop target (.ref I) body [] env) R' s := by
  refine codeAny_forLoop_any (fun k s' => ∃ i B' m' μ' o', Sub B B' ∧ J i B' m' μ' ∧ St R B' ((L, m') :: F) ((I, ItP o') :: μ') s' ∧ IterAt T prog w A B' I n P i s'.heap ∧ i ≤ n ∧ k = n - i) ?_ n ⟨0, B, m, μ, o, Sub.refl _, h0, X, TT, Nat.zero_le _, rfl⟩
  rintro k s' ⟨i, B', m', μ', o', hs, hJ, Y, T', hi, rfl⟩
  by_cases hin : i < n
  · refine next_item Y T' hin fun v o'' s2 hP T'' Y' => ?_
    refine hgo v s2 _ _ (let ⟨fp, St', W, hf, ho, st⟩ := T''; ho _ _ st) ?_
    refine wpAny_mono (turn i v B' m' μ' o'' s2 _ hin hP hs hJ Y' _ fun _ _ h => h) (fun _ s3 h3 => wpAny_mono h3 (fun f s4 h4 => ?_) fun _ _ e => e) fun _ _ e => e
    cases f with
    | brk => exact h4
    | ret v => exact h4
    | next =>
      obtain ⟨B2, m2, μ2, hs2, Y2, J2⟩ := h4
      exact ⟨n - (i + 1), by (first | lia | omega), i + 1, B2, m2, μ2, o'', hs.trans hs2, J2, Y2, (T''.keep Y' (Y2.less hs2)).sub hs2, hin, rfl⟩
    | cont =>
      obtain ⟨B2, m2, μ2, hs2, Y2, J2⟩ := h4
      exact ⟨n - (i + 1), by (first | lia | omega), i + 1, B2, m2, μ2, o'', hs.trans hs2, J2, Y2, (T''.keep Y' (Y2.less hs2)).sub hs2, hin, rfl⟩
  · have e : i = n := by (first | lia | omega)
    subst e
    exact next_done Y T' fun s2 Y2 => wpAny_execs_nil (done B' m' μ' s2 hs hJ Y2)
end
end text_LyE
section text_LyF
set_option maxRecDepth 100000
set_option maxHeartbeats 1000000

noncomputable def RngP (a b : Int) : Obj → Prop := fun o => ∃ t u v, o = { cls := .type "range", data := .fields #[.int a t, .int b u, .int 1 v] }

theorem cellsFrom_acc : ∀ (names : List (Str × NameKind)) (n : Nat) (acc : List (Str × Addr)), cellsFrom n names acc = cellsFrom n names [] ++ acc
  | [], _, _ => rfl
  | (x, k) :: r, n, acc => by
    unfold cellsFrom
    split
    · rw [cellsFrom_acc r (n + 1) ((x, n) :: acc), cellsFrom_acc r (n + 1) [(x, n)], List.append_assoc]; rfl
    · exact cellsFrom_acc r n acc
noncomputable def cellLed (l : List (Str × Addr)) (cm : NM) : Led := l.map fun p => (p.2, IsC (cm p.1))

section
variable {prog : Program} {w : World} {A : Around} {E : Value → Shared → Prop} {s : Shared} {env : Env} {R : Shared} {B B' : BM} {F : List (Addr × NM)} {μ μ' : Led} {L I : Addr} {m : NM} {K : Frag} {n i : Nat} {P : Nat → Value → Prop} {o : Obj} {T : String}

theorem St.cells : ∀ (names : List (Str × NameKind)) {s : Shared} {μ : Led}, St R B F μ s → St R B F (cellLed (cellsFrom s.heap.objs.size names []) (fun _ => none) ++ μ) { s with heap := pushCells s.heap names }
  | [], s, μ, X => X
  | (x, k) :: r, s, μ, X => by
    unfold pushCells cellsFrom
    split
    · have Y := St.cells r (X.new (tk := s.toks) (o := { cls := .type "cell", data := .cell none }) (P := IsC none) rfl)
      rw [Heap.size_push] at Y
      rw [cellsFrom_acc]
      unfold cellLed at Y ⊢
      rw [List.map_append, List.append_assoc]
      exact Y
    · exact St.cells r X

theorem range_1 {k : Int} {t : Tok} {Q : Value → Shared → Prop} (X : St R B F μ s) (h : ∀ r s', St R B F ((r, RngP 0 k) :: μ) s' → Q (.ref r) s') : wpAny (model prog w) A (call (.type "range") [.int k t]) Q E s :=
  call_range_1 (h _ _ (X.new ⟨_, _, _, rfl⟩))
theorem range_2 {a b : Int} {t u : Tok} {Q : Value → Shared → Prop} (X : St R B F μ s) (h : ∀ r s', St R B F ((r, RngP a b) :: μ) s' → Q (.ref r) s') : wpAny (model prog w) A (call (.type "range") [.int a t, .int b u]) Q E s :=
  call_range_2 (h _ _ (X.new ⟨_, _, _, rfl⟩))
theorem it_range {r : Addr} {a b : Int} {k : Nat} {Q : Value → Shared → Prop} (hA : A.handled = none) (X : St R B F μ s) (hr : (r, RngP a b) ∈ μ) (hk : b = a + k) (ha : -(2 ^ 60) ≤ a) (ha' : a < 2 ^ 60) (hb : k < 2 ^ 60)
    (h : ∀ I o s', IterAt "range_iterator" prog w A B I k (fun i v => IntV (a + i) v) 0 s'.heap → St R B F ((I, ItP o) :: μ) s' → Q (.ref I) s') : wpAny (model prog w) A (pyIter (.ref r)) Q E s := by
  obtain ⟨o, e, t, u, v, rfl⟩ := X.get hr
  have hsz : Builtin.Range.rangeSize a b 1 = (k : Int) := by rw [rangeSize_one]; split <;> (first | lia | omega)
  refine wpAny_pyIter_range e (small_one (by (first | lia | omega)) (by (first | lia | omega)) (by (first | lia | omega)) (by (first | lia | omega))) (h s.heap.objs.size _ _ ?_ (X.new (tk := s.toks) (o := { cls := .type "range_iterator", data := .fields #[rawInt a, rawInt (Builtin.Range.rangeSize a b 1), rawInt 1] }) rfl))
  have W := Walks.range (prog := prog) (w := w) hA s.heap.objs.size a 1 k
  simp only [Int.mul_one] at W
  refine ⟨_, _, W, fun b hb => .inl (by simpa using hb), fun i h st => ⟨_, st, rfl⟩, ?_⟩
  show IsRangeIter _ _ _ _ _
  rw [hsz]
  have := Heap.get?_push_size s.heap (o := { cls := .type "range_iterator", data := .fields #[rawInt a, rawInt (k : Int), rawInt 1] }) rfl
  simpa using this

theorem it_range0 {r : Addr} {k : Nat} {Q : Value → Shared → Prop} (hA : A.handled = none) (X : St R B F ((r, RngP 0 k) :: μ) s) (hb : k < 2 ^ 60)
    (h : ∀ I o s', IterAt "range_iterator" prog w A B I k (fun i v => IntV i v) 0 s'.heap → St R B F ((I, ItP o) :: μ) s' → Q (.ref I) s') : wpAny (model prog w) A (pyIter (.ref r)) Q E s := by
  refine it_range hA X (.head _) (k := k) (by (first | lia | omega)) (by decide) (by decide) hb fun I o s' T X' => h I o s' ?_ (X'.perm (.swap _ _ _)).drop1
  simp only [Int.zero_add] at T
  exact T

/-- a tuple taken apart -/
theorem assign_tup {elts : List Expr} {x1 : Nat} {pos : Pos} {t : Addr} {vs : List Value} {Q : Unit → Shared → Prop} (hA : A.handled = none) (X : St R B F μ s) (ht : ∃ c, s.heap.get? t = some { cls := .type "tuple", data := .seq vs.toArray c })
    (h : ∀ s', St R B F μ s' → wpAny (model prog w) A (assignInOrder ((assignEach elts env).map (·.2)) vs) Q E s') (hn : (assignEach elts env).length = vs.length) (hstar : (assignEach elts env).findIdx? (·.1) = none) :
    wpAny (model prog w) A (assign (.Tuple elts x1 pos) env (.ref t)) Q E s := by
  obtain ⟨c, e⟩ := ht
  exact wpAny_assign_Tuple hA ⟨_, e, rfl, c, rfl⟩ (by simpa using hn) hstar fun h' hk => h _ (X.grow (tk := s.toks) fun b o e => hk b o (Nat.ne_of_lt (Heap.lt_size e)) e)

theorem newEnv_x {scope : Scope} {gl : Addr} {cl : List (Str × Addr)} {qual : Str} {Q : Env → Shared → Prop} (X : St R B F μ s)
    (h : ∀ C s', St R B ((C, fun _ => none) :: F) (cellLed (cellsFrom (C + 1) scope.names []) (fun _ => none) ++ μ) s' → Q (newEnv scope C gl (cellsFrom (C + 1) scope.names cl) qual none .none (some env) builtinsNs) s') :
    wpAny (model prog w) A (newFunctionEnv scope gl cl [] qual none .none (some env)) Q E s := by
  simp only [newFunctionEnv, Option.isSome_some, if_true]
  refine wpAny_bind (wpAny_alloc ?_)
  refine wpAny_bind (wpAny_layCells _ (fun name kind cells => by cases hkc : kind == NameKind.cell <;> simp [hkc]) _ _ _ _ ?_)
  have Y := St.cells scope.names (X.enter (tk := s.toks) (m := fun _ => none) (Heap.Ns.new s.heap (.type "dict")) fun b o e => Heap.get?_push_of_some _ e)
  have hsz : (s.heap.push { cls := .type "dict", data := .dict #[] }).objs.size = s.heap.objs.size + 1 := Heap.size_push ..
  rw [show ({ s with heap := s.heap.push { cls := .type "dict", data := .dict #[] } } : Shared).heap.objs.size = s.heap.objs.size + 1 from hsz] at Y ⊢
  exact wpAny_bind (wpAny_pure (wpAny_pure (h _ _ Y)))

inductive TurnP {β : Type} (R : Shared) (B' : BM) (C : Addr) (F : List (Addr × NM)) (D I : Addr) (rel : BM → β → Value → Prop) (xs : List β) (o' : Obj) (J : BM → NM → Led → List β → Prop) (x : Value) (s₄ : Shared) : Prop
  | mk (B'' : BM) (m'' : NM) (μ'' : Led) (y : β) (hs : Sub B' B'') (X : St R B'' ((C, m'') :: F) ((D, XL (rel B') xs) :: (I, ItP o') :: μ'') s₄) (hJ : J B'' m'' μ'' (xs ++ [y])) (hr : rel B'' y x) : TurnP R B' C F D I rel xs o' J x s₄
inductive SkipP {β : Type} (R : Shared) (B' : BM) (C : Addr) (F : List (Addr × NM)) (D I : Addr) (rel : BM → β → Value → Prop) (xs : List β) (o' : Obj) (J : BM → NM → Led → List β → Prop) (s₃ : Shared) : Prop
  | mk (B'' : BM) (m'' : NM) (μ'' : Led) (hs : Sub B' B'') (X : St R B'' ((C, m'') :: F) ((D, XL (rel B') xs) :: (I, ItP o') :: μ'') s₃) (hJ : J B'' m'' μ'' xs) : SkipP R B' C F D I rel xs o' J s₃
inductive TurnQ {β : Type} (R : Shared) (B : BM) (C : Addr) (F : List (Addr × NM)) (D I : Addr) (rel : β → Value → Prop) (xs ys : List β) (o' : Obj) (μ : Led) (x : Value) (s₄ : Shared) : Prop
  | mk (m'' : NM) (y : β) (X : St R B ((C, m'') :: F) ((D, XL rel xs) :: (I, ItP o') :: μ) s₄) (hr : rel y x) (e : ys = xs ++ [y]) : TurnQ R B C F D I rel xs ys o' μ x s₄
inductive SkipQ {β : Type} (R : Shared) (B : BM) (C : Addr) (F : List (Addr × NM)) (D I : Addr) (rel : β → Value → Prop) (xs ys : List β) (o' : Obj) (μ : Led) (s₃ : Shared) : Prop
  | mk (m'' : NM) (X : St R B ((C, m'') :: F) ((D, XL rel xs) :: (I, ItP o') :: μ) s₃) (e : ys = xs) : SkipQ R B C F D I rel xs ys o' μ s₃

/-- the turns of a comprehension -/
theorem comp_block {β : Type} (rel : BM → β → Value → Prop) (J : Addr → Nat → BM → NM → Led → List β → Prop) {elt target iter : Expr} {ifs : List Expr} {scope : Scope} {cl : List (Str × Addr)} {pos : Pos} {RR : Value → Addr → Result → Shared → Prop}
    (TT : IterAt T prog w A B I n P 0 s.heap) (X : St R B F ((I, ItP o) :: μ) s) (hz : ∀ C i B' m' μ' xs, J C i B' m' μ' xs → xs.length ≤ 1000)
    (hm : ∀ B₁ B₂, Sub B₁ B₂ → ∀ y v, rel B₁ y v → rel B₂ y v)
    (h0 : ∀ C, J C 0 B (fun _ => none) (cellLed (cellsFrom (C + 1) scope.names []) (fun _ => none) ++ μ) [])
    (turn : ∀ C D i v B' m' μ' o' s' E' xs, i < n → P i v → Sub B B' → J C i B' m' μ' xs → St R B' ((C, m') :: F) ((D, XL (rel B') xs) :: (I, ItP o') :: μ') s' →
        ∀ (Qy : Value → Shared → Prop) (Qn : Shared → Prop), (∀ x s₄, TurnP R B' C (F) D I rel xs o' (J C (i + 1)) x s₄ → Qy x s₄) → (∀ s₃, SkipP R B' C (F) D I rel xs o' (J C (i + 1)) s₃ → Qn s₃) →
        wpAny (model prog w) A (assign target (compEnvC scope (cellsFrom (C + 1) scope.names cl) C env) v) (fun _ s₂ =>
        wpAny (model prog w) A (forIn ifs true fun c r => if r = true then do let ok ← isTrue c (compEnvC scope (cellsFrom (C + 1) scope.names cl) C env) (eval c (compEnvC scope (cellsFrom (C + 1) scope.names cl) C env)); pure (ForInStep.yield ok) else pure (ForInStep.yield r)) (fun ok s₃ =>
          if ok = true then wpAny (model prog w) A (eval elt (compEnvC scope (cellsFrom (C + 1) scope.names cl) C env)) Qy E' s₃ else Qn s₃) E' s₂) E' s')
    (done : ∀ C D B' m' μ' s' xs, Sub B B' → J C n B' m' μ' xs → St R B' ((C, m') :: F) ((D, XL (rel B') xs) :: μ') s' → RR (.ref D) C (.ok .next) s')
    (ht : ∀ v, letOwnedTupleGo target (.ref I) v = pure () := by intro _; rfl) :
    wpAny (model prog w) A (newList []) (fun acc s₃ => wpAny (model prog w) A (newFunctionEnv scope env.globals cl [] env.qual none .none (some env)) (fun cenv s₄ =>
      codeAny (model prog w) A (.compStart (.ListComp elt [⟨target, iter, ifs, 0⟩] scope pos) 0 (.ref I) acc { cenv with scope := relabel scope env }) (RR acc cenv.locals) s₄) E s₃) E s := by
  refine newLst_ (P := XL (rel B) []) X (fun c => ⟨[], .nil, c, rfl⟩) (by simp) fun D s₃ X₃ => ?_
  refine newEnv_x X₃ fun C s₄ X₄ => ?_
  have X₄' : St R B ((C, fun _ => none) :: F) ((I, ItP o) :: (D, XL (rel B) []) :: (cellLed (cellsFrom (C + 1) scope.names []) (fun _ => none) ++ μ)) s₄ := by
    refine X₄.perm ?_
    refine List.Perm.trans ?_ List.perm_append_comm
    refine List.Perm.trans (.swap _ _ _) ?_
    exact (((List.perm_append_comm).cons _).cons _)
  have T₄ : IterAt T prog w A B I n P 0 s₄.heap := TT.keep X X₄'
  have loop : codeAny (model prog w) A (.compLoop (.ListComp elt [⟨target, iter, ifs, 0⟩] scope pos) 0 (.ref I) (.ref D) (compEnvC scope (cellsFrom (C + 1) scope.names cl) C env)) (RR (.ref D) C) s₄ := by
    refine codeAny_compLoop_tests (fun k s' => ∃ i B' m' μ' o' xs, Sub B B' ∧ J C i B' m' μ' xs ∧ St R B' ((C, m') :: F) ((I, ItP o') :: (D, XL (rel B') xs) :: μ') s' ∧ IterAt T prog w A B' I n P i s'.heap ∧ i ≤ n ∧ k = n - i) ?_ n ⟨0, B, _, _, o, [], Sub.refl _, h0 C, X₄', T₄, Nat.zero_le _, rfl⟩ ht
    rintro k s' ⟨i, B', m', μ', o', xs, hs, hJ, Y, T', hi, rfl⟩
    by_cases hin : i < n
    · refine next_item Y T' hin fun v o'' s2 hP T'' Y' => ?_
      have Y'' := Y'.perm (.swap _ _ _)
      refine wpAny_mono (turn C D i v B' m' μ' o'' s2 _ xs hin hP hs hJ Y'' _ _ (fun _ _ h => h) fun _ h => h) (fun _ s3 h3 => wpAny_mono h3 (fun ok s4 h4 => ?_) fun _ _ e => e) fun _ _ e => e
      cases ok with
      | false =>
        simp only [Bool.false_eq_true, if_false] at h4 ⊢
        obtain ⟨B2, m2, μ2, hs2, Y2, J2⟩ := h4
        have Y3 := (Y2.weak1 (P' := XL (rel B2) xs) fun o q => q.mono (hm _ _ hs2)).perm (.swap _ _ _)
        exact ⟨n - (i + 1), by (first | lia | omega), i + 1, B2, m2, μ2, o'', xs, hs.trans hs2, J2, Y3, (T''.keep Y' (Y3.less hs2)).sub hs2, hin, rfl⟩
      | true =>
        simp only [if_true] at h4 ⊢
        refine wpAny_mono h4 (fun x s5 h5 => ?_) fun _ _ e => e
        obtain ⟨B2, m2, μ2, y, hs2, Y2, J2, hy⟩ := h5
        have Y3 := Y2.weak1 (P' := XL (rel B2) xs) fun o q => q.mono (hm _ _ hs2)
        refine append_x Y3 .head hy (hz _ _ _ _ _ _ hJ) fun s6 Y6 => ?_
        have Y7 := Y6.perm (.swap _ _ _)
        exact ⟨n - (i + 1), by (first | lia | omega), i + 1, B2, m2, μ2, o'', xs ++ [y], hs.trans hs2, J2, Y7, (T''.keep Y' (Y7.less hs2)).sub hs2, hin, rfl⟩
    · have e : i = n := by (first | lia | omega)
      subst e
      exact next_done Y T' fun s2 Y2 => done C D B' m' μ' s2 xs hs hJ Y2
  exact codeAny_compStart_list loop (T₄.self loop)

inductive CompE {β : Type} (prog : Program) (w : World) (A : Around) (R : Shared) (F : List (Addr × NM)) (env : Env) (rel : BM → β → Value → Prop) (elt target : Expr) (ifs : List Expr) (scope : Scope) (cl : List (Str × Addr)) (Q : Value → Shared → Prop) (it : Value) (s₂ : Shared) : Prop
  | mk (J : Addr → Nat → BM → NM → Led → List β → Prop) (I : Addr) (n : Nat) (P : Nat → Value → Prop) (o : Obj) (B : BM) (μ : Led) (T : String)
      (h1 : it = .ref I) (TT : IterAt T prog w A B I n P 0 s₂.heap) (X : St R B F ((I, ItP o) :: μ) s₂) (hz : ∀ C i B' m' μ' xs, J C i B' m' μ' xs → xs.length ≤ 1000)
      (hm : ∀ B₁ B₂, Sub B₁ B₂ → ∀ y v, rel B₁ y v → rel B₂ y v)
      (h0 : ∀ C, J C 0 B (fun _ => none) (cellLed (cellsFrom (C + 1) scope.names []) (fun _ => none) ++ μ) [])
      (turn : ∀ C D i v B' m' μ' o' s' E' xs, i < n → P i v → Sub B B' → J C i B' m' μ' xs → St R B' ((C, m') :: F) ((D, XL (rel B') xs) :: (I, ItP o') :: μ') s' →
        ∀ (Qy : Value → Shared → Prop) (Qn : Shared → Prop), (∀ x s₄, TurnP R B' C (F) D I rel xs o' (J C (i + 1)) x s₄ → Qy x s₄) → (∀ s₃, SkipP R B' C (F) D I rel xs o' (J C (i + 1)) s₃ → Qn s₃) →
        wpAny (model prog w) A (assign target (compEnvC scope (cellsFrom (C + 1) scope.names cl) C env) v) (fun _ s₂ =>
        wpAny (model prog w) A (forIn ifs true fun c r => if r = true then do let ok ← isTrue c (compEnvC scope (cellsFrom (C + 1) scope.names cl) C env) (eval c (compEnvC scope (cellsFrom (C + 1) scope.names cl) C env)); pure (ForInStep.yield ok) else pure (ForInStep.yield r)) (fun ok s₃ =>
          if ok = true then wpAny (model prog w) A (eval elt (compEnvC scope (cellsFrom (C + 1) scope.names cl) C env)) Qy E' s₃ else Qn s₃) E' s₂) E' s')
      (done : ∀ C D B' m' μ' s' xs, Sub B B' → J C n B' m' μ' xs → St R B' F ((D, XL (rel B') xs) :: μ') s' → Q (.ref D) s') : CompE prog w A R F env rel elt target ifs scope cl Q it s₂
inductive CompA {β : Type} (prog : Program) (w : World) (A : Around) (R : Shared) (F : List (Addr × NM)) (env : Env) (rel : BM → β → Value → Prop) (elt target : Expr) (ifs : List Expr) (scope : Scope) (cl : List (Str × Addr)) (y : Str) (Q : Flow → Shared → Prop) (it : Value) (s₂ : Shared) : Prop
  | mk (J : Addr → Nat → BM → NM → Led → List β → Prop) (I : Addr) (n : Nat) (P : Nat → Value → Prop) (o : Obj) (B : BM) (μ : Led) (m : NM) (T : String)
      (h1 : it = .ref I) (TT : IterAt T prog w A B I n P 0 s₂.heap) (X : St R B ((env.locals, m) :: F) ((I, ItP o) :: μ) s₂) (hz : ∀ C i B' m' μ' xs, J C i B' m' μ' xs → xs.length ≤ 1000)
      (hm : ∀ B₁ B₂, Sub B₁ B₂ → ∀ y v, rel B₁ y v → rel B₂ y v)
      (h0 : ∀ C, J C 0 B (fun _ => none) (cellLed (cellsFrom (C + 1) scope.names []) (fun _ => none) ++ μ) [])
      (turn : ∀ C D i v B' m' μ' o' s' E' xs, i < n → P i v → Sub B B' → J C i B' m' μ' xs → St R B' ((C, m') :: (env.locals, m) :: F) ((D, XL (rel B') xs) :: (I, ItP o') :: μ') s' →
        ∀ (Qy : Value → Shared → Prop) (Qn : Shared → Prop), (∀ x s₄, TurnP R B' C ((env.locals, m) :: F) D I rel xs o' (J C (i + 1)) x s₄ → Qy x s₄) → (∀ s₃, SkipP R B' C ((env.locals, m) :: F) D I rel xs o' (J C (i + 1)) s₃ → Qn s₃) →
        wpAny (model prog w) A (assign target (compEnvC scope (cellsFrom (C + 1) scope.names cl) C env) v) (fun _ s₂ =>
        wpAny (model prog w) A (forIn ifs true fun c r => if r = true then do let ok ← isTrue c (compEnvC scope (cellsFrom (C + 1) scope.names cl) C env) (eval c (compEnvC scope (cellsFrom (C + 1) scope.names cl) C env)); pure (ForInStep.yield ok) else pure (ForInStep.yield r)) (fun ok s₃ =>
          if ok = true then wpAny (model prog w) A (eval elt (compEnvC scope (cellsFrom (C + 1) scope.names cl) C env)) Qy E' s₃ else Qn s₃) E' s₂) E' s')
      (done : ∀ C D B' m' μ' s' xs, Sub B B' → J C n B' m' μ' xs → St R B' ((env.locals, put m y (.ref D)) :: F) ((D, XL (rel B') xs) :: μ') s' → Q .next s') : CompA prog w A R F env rel elt target ifs scope cl y Q it s₂
inductive CompP {β : Type} (prog : Program) (w : World) (A : Around) (R : Shared) (F : List (Addr × NM)) (env : Env) (rel : β → Value → Prop) (out : Nat → List β) (elt target : Expr) (ifs : List Expr) (scope : Scope) (cl : List (Str × Addr)) (Q : Value → Shared → Prop) (it : Value) (s₂ : Shared) : Prop
  | mk (I : Addr) (n : Nat) (P : Nat → Value → Prop) (o : Obj) (T : String) (B : BM) (μ : Led)
      (h1 : it = .ref I) (TT : IterAt T prog w A B I n P 0 s₂.heap) (X : St R B F ((I, ItP o) :: μ) s₂) (hz : ∀ i, i ≤ n → (out i).length ≤ 1000) (h0 : out 0 = [])
      (turn : ∀ C D i v m' o' s' E', i < n → P i v → St R B ((C, m') :: F) ((D, XL rel (out i)) :: (I, ItP o') :: μ) s' →
        ∀ (Qy : Value → Shared → Prop) (Qn : Shared → Prop), (∀ x s₄, TurnQ R B C (F) D I rel (out i) (out (i + 1)) o' μ x s₄ → Qy x s₄) → (∀ s₃, SkipQ R B C (F) D I rel (out i) (out (i + 1)) o' μ s₃ → Qn s₃) →
        wpAny (model prog w) A (assign target (compEnvC scope (cellsFrom (C + 1) scope.names cl) C env) v) (fun _ s₂ =>
        wpAny (model prog w) A (forIn ifs true fun c r => if r = true then do let ok ← isTrue c (compEnvC scope (cellsFrom (C + 1) scope.names cl) C env) (eval c (compEnvC scope (cellsFrom (C + 1) scope.names cl) C env)); pure (ForInStep.yield ok) else pure (ForInStep.yield r)) (fun ok s₃ =>
          if ok = true then wpAny (model prog w) A (eval elt (compEnvC scope (cellsFrom (C + 1) scope.names cl) C env)) Qy E' s₃ else Qn s₃) E' s₂) E' s')
      (done : ∀ D s', St R B F ((D, XL rel (out n)) :: μ) s' → Q (.ref D) s') : CompP prog w A R F env rel out elt target ifs scope cl Q it s₂
inductive CompPa {β : Type} (prog : Program) (w : World) (A : Around) (R : Shared) (F : List (Addr × NM)) (env : Env) (rel : β → Value → Prop) (out : Nat → List β) (elt target : Expr) (ifs : List Expr) (scope : Scope) (cl : List (Str × Addr)) (L : Addr) (m : NM) (y : Str) (Q : Flow → Shared → Prop) (it : Value) (s₂ : Shared) : Prop
  | mk (I : Addr) (n : Nat) (P : Nat → Value → Prop) (o : Obj) (T : String) (B : BM) (μ : Led)
      (h1 : it = .ref I) (TT : IterAt T prog w A B I n P 0 s₂.heap) (X : St R B ((L, m) :: F) ((I, ItP o) :: μ) s₂) (hz : ∀ i, i ≤ n → (out i).length ≤ 1000) (h0 : out 0 = [])
      (turn : ∀ C D i v m' o' s' E', i < n → P i v → St R B ((C, m') :: (L, m) :: F) ((D, XL rel (out i)) :: (I, ItP o') :: μ) s' →
        ∀ (Qy : Value → Shared → Prop) (Qn : Shared → Prop), (∀ x s₄, TurnQ R B C ((L, m) :: F) D I rel (out i) (out (i + 1)) o' μ x s₄ → Qy x s₄) → (∀ s₃, SkipQ R B C ((L, m) :: F) D I rel (out i) (out (i + 1)) o' μ s₃ → Qn s₃) →
        wpAny (model prog w) A (assign target (compEnvC scope (cellsFrom (C + 1) scope.names cl) C env) v) (fun _ s₂ =>
        wpAny (model prog w) A (forIn ifs true fun c r => if r = true then do let ok ← isTrue c (compEnvC scope (cellsFrom (C + 1) scope.names cl) C env) (eval c (compEnvC scope (cellsFrom (C + 1) scope.names cl) C env)); pure (ForInStep.yield ok) else pure (ForInStep.yield r)) (fun ok s₃ =>
          if ok = true then wpAny (model prog w) A (eval elt (compEnvC scope (cellsFrom (C + 1) scope.names cl) C env)) Qy E' s₃ else Qn s₃) E' s₂) E' s')
      (done : ∀ D s', St R B ((L, put m y (.ref D)) :: F) ((D, XL rel (out n)) :: μ) s' → Q .next s') : CompPa prog w A R F env rel out elt target ifs scope cl L m y Q it s₂

/-- a comprehension as a value -/
theorem comp_e {B₀ : BM} {μ₀ : Led} {β : Type} (X₀ : St R B₀ F μ₀ s) (rel : BM → β → Value → Prop) {elt target iter : Expr} {ifs : List Expr} {scope : Scope} {cl : List (Str × Addr)} {pos : Pos} {Q : Value → Shared → Prop}
    (hclos : closureFor scope env = pure cl) (hkind : scope.kind = .function) (hnames : ∀ x ∈ scope.names, x.2 = .local → scope.names.lookup x.1 = some .local)
    (h : wpAny (model prog w) A (eval iter env) (fun x s₁ => wpAny (model prog w) A (pyIter x) (CompE prog w A R F env rel elt target ifs scope cl Q) E s₁) E s)
    (hs : ∀ x, foldedSetIterable iter env x = pure x := by intro _; rfl) (ht : ∀ I v, letOwnedTupleGo target (.ref I) v = pure () := by intro _ _; rfl) :
    wpAny (model prog w) A (eval (.ListComp elt [⟨target, iter, ifs, 0⟩] scope pos) env) Q E s := by
  rw [eval_ListComp]
  refine wpAny_comprehension_free (use := none) rfl hs hclos hkind hnames (wpAny_mono h (fun xv s₁ h₁ => wpAny_mono h₁ (fun it s₂ h₂ => ?_) fun _ _ e => e) fun _ _ e => e)
  obtain ⟨J, I, n, P, o, B, μ, T, rfl, TT, X, hz, hm, h0, turn, done⟩ := h₂
  refine comp_block (RR := fun acc C => compPost (model prog w) A E none Q acc C) rel J TT X hz hm h0 turn (fun C D B' m' μ' s' xs hs hJ Y => ?_) (ht I)
  exact ⟨m', Y.fr (C, m') (.head _), fun h'' hs'' => done C D B' m' μ' _ xs hs hJ (Y.leaveBut (tk := s'.toks) hs'')⟩

/-- a name is given a comprehension: the store goes ahead of the block's end -/
theorem comp_a {B₀ : BM} {μ₀ : Led} {m₀ : NM} {β : Type} (X₀ : St R B₀ ((L, m₀) :: F) μ₀ s) (rel : BM → β → Value → Prop) {elt target iter : Expr} {ifs : List Expr} {scope : Scope} {cl : List (Str × Addr)} {y : Str} {py pos spos : Pos} {Q : Flow → Shared → Prop}
    (hsw : swapsWith (.ListComp elt [⟨target, iter, ifs, 0⟩] scope pos) (some (.Name y py)) spos.line env = pure true)
    (hclos : closureFor scope env = pure cl) (hkind : scope.kind = .function) (hnames : ∀ x ∈ scope.names, x.2 = .local → scope.names.lookup x.1 = some .local)
    (hy : env.kindOf y = some .local)
    (h : wpAny (model prog w) A (eval iter env) (fun x s₁ => wpAny (model prog w) A (pyIter x) (CompA prog w A R F env rel elt target ifs scope cl y Q) E s₁) E s)
    (hp : (env.scope.kind == .class || (env.scope.kind == .module && env.locals != env.globals)) = false := by rfl)
    (hs : ∀ x, foldedSetIterable iter env x = pure x := by intro _; rfl) (ht : ∀ I v, letOwnedTupleGo target (.ref I) v = pure () := by intro _ _; rfl) :
    wpAny (model prog w) A (exec (.Assign [.Name y py] (.ListComp elt [⟨target, iter, ifs, 0⟩] scope pos) spos) env) Q E s := by
  rw [exec_Assign_Name_used _ _ _ _ hsw]
  refine wpAny_bind (wpAny_standAt (wpAny_bind ?_))
  show wpAny _ A (do let _ ← comprehension (.ListComp elt [⟨target, iter, ifs, 0⟩] scope pos) scope env _ (newList []) false (eval iter env) (some (assign (.Name y py) env))) _ _ s
  refine wpAny_bind (wpAny_mono (wpAny_comprehension_free (use := some (assign (.Name y py) env)) (Q := fun _ s' => Q .next s') rfl hs hclos hkind hnames
    (wpAny_mono h (fun xv s₁ h₁ => wpAny_mono h₁ (fun it s₂ h₂ => ?_) fun _ _ e => e) fun _ _ e => e)) (fun _ s' hq => wpAny_pure (wpAny_pure hq)) fun _ _ e => e)
  obtain ⟨J, I, n, P, o, B, μ, m, T, rfl, TT, X, hz, hm, h0, turn, done⟩ := h₂
  refine comp_block (RR := fun acc C => compPost (model prog w) A E (some (assign (.Name y py) env)) (fun _ s' => Q .next s') acc C) rel J TT X hz hm h0 turn (fun C D B' m' μ' s' xs hs hJ Y => ?_) (ht I)
  show wpAny _ A (assign (.Name y py) env (.ref D)) _ _ _
  refine wpAny_assign_Name (store_l hy Y.swapF (fun s'' Z => ?_) rfl hp)
  have Z := Z.swapF
  exact ⟨m', Z.fr (C, m') (.head _), fun h'' hs'' => done C D B' m' μ' _ xs hs hJ (Z.leaveBut (tk := s''.toks) hs'')⟩

/-- a comprehension that changes nothing but its own list -/
theorem comp_p {β : Type} {B₀ : BM} {μ₀ : Led} (X₀ : St R B₀ F μ₀ s) (rel : β → Value → Prop) (out : Nat → List β) {elt target iter : Expr} {ifs : List Expr} {scope : Scope} {cl : List (Str × Addr)} {pos : Pos} {Q : Value → Shared → Prop}
    (hclos : closureFor scope env = pure cl) (hkind : scope.kind = .function) (hnames : ∀ x ∈ scope.names, x.2 = .local → scope.names.lookup x.1 = some .local)
    (h : wpAny (model prog w) A (eval iter env) (fun x s₁ => wpAny (model prog w) A (pyIter x) (CompP prog w A R F env rel out elt target ifs scope cl Q) E s₁) E s)
    (hnc : ∀ n, cellsFrom n scope.names [] = [] := by intro _; rfl)
    (hs : ∀ x, foldedSetIterable iter env x = pure x := by intro _; rfl) (ht : ∀ I v, letOwnedTupleGo target (.ref I) v = pure () := by intro _ _; rfl) :
    wpAny (model prog w) A (eval (.ListComp elt [⟨target, iter, ifs, 0⟩] scope pos) env) Q E s := by
  refine comp_e X₀ (fun _ => rel) hclos hkind hnames (wpAny_mono h (fun x s₁ h₁ => wpAny_mono h₁ (fun it s₂ h₂ => ?_) fun _ _ e => e) fun _ _ e => e) hs ht
  obtain ⟨I, n, P, o, T, B, μ, rfl, TT, X, hz, h0, turn, done⟩ := h₂
  refine ⟨fun C i B' m' μ' xs => B = B' ∧ μ = μ' ∧ out i = xs ∧ xs.length ≤ 1000, I, n, P, o, B, μ, T, rfl, TT, X, fun _ _ _ _ _ _ h => h.2.2.2, fun _ _ _ _ _ h => h, fun C => ⟨rfl, by rw [hnc]; rfl, h0, by simp⟩, ?_, ?_⟩
  · rintro C D i v B' m' μ' o' s' E' xs hi hv hs ⟨rfl, rfl, rfl, hl⟩ Y Qy Qn hy hn
    refine turn C D i v m' o' s' E' hi hv Y Qy Qn (fun x s5 h5 => hy x s5 ?_) fun s4 h4 => hn s4 ?_
    · obtain ⟨m2, y, Y2, hr, e2⟩ := h5
      exact ⟨B, m2, μ, y, Sub.refl _, Y2, ⟨rfl, rfl, e2, by rw [← e2]; exact hz _ hi⟩, hr⟩
    · obtain ⟨m2, Y2, e2⟩ := h4
      exact ⟨B, m2, μ, Sub.refl _, Y2, rfl, rfl, e2, hl⟩
  · rintro C D B' m' μ' s' xs hs ⟨rfl, rfl, rfl, hl⟩ Y
    exact done D s' Y
/-- the same, given to a name -/
theorem comp_pa {β : Type} {B₀ : BM} {μ₀ : Led} {m : NM} (X₀ : St R B₀ ((L, m) :: F) μ₀ s) (rel : β → Value → Prop) (out : Nat → List β) {elt target iter : Expr} {ifs : List Expr} {scope : Scope} {cl : List (Str × Addr)} {y : Str} {py pos spos : Pos} {Q : Flow → Shared → Prop}
    (hsw : swapsWith (.ListComp elt [⟨target, iter, ifs, 0⟩] scope pos) (some (.Name y py)) spos.line env = pure true)
    (hclos : closureFor scope env = pure cl) (hkind : scope.kind = .function) (hnames : ∀ x ∈ scope.names, x.2 = .local → scope.names.lookup x.1 = some .local)
    (hy : env.kindOf y = some .local) (hL : env.locals = L)
    (h : wpAny (model prog w) A (eval iter env) (fun x s₁ => wpAny (model prog w) A (pyIter x) (CompPa prog w A R F env rel out elt target ifs scope cl L m y Q) E s₁) E s)
    (hnc : ∀ n, cellsFrom n scope.names [] = [] := by intro _; rfl)
    (hp : (env.scope.kind == .class || (env.scope.kind == .module && env.locals != env.globals)) = false := by rfl)
    (hs : ∀ x, foldedSetIterable iter env x = pure x := by intro _; rfl) (ht : ∀ I v, letOwnedTupleGo target (.ref I) v = pure () := by intro _ _; rfl) :
    wpAny (model prog w) A (exec (.Assign [.Name y py] (.ListComp elt [⟨target, iter, ifs, 0⟩] scope pos) spos) env) Q E s := by
  subst hL
  refine comp_a X₀ (fun _ => rel) hsw hclos hkind hnames hy (wpAny_mono h (fun x s₁ h₁ => wpAny_mono h₁ (fun it s₂ h₂ => ?_) fun _ _ e => e) fun _ _ e => e) hp hs ht
  obtain ⟨I, n, P, o, T, B, μ, rfl, TT, X, hz, h0, turn, done⟩ := h₂
  refine ⟨fun C i B' m' μ' xs => B = B' ∧ μ = μ' ∧ out i = xs ∧ xs.length ≤ 1000, I, n, P, o, B, μ, m, T, rfl, TT, X, fun _ _ _ _ _ _ h => h.2.2.2, fun _ _ _ _ _ h => h, fun C => ⟨rfl, by rw [hnc]; rfl, h0, by simp⟩, ?_, ?_⟩
  · rintro C D i v B' m' μ' o' s' E' xs hi hv hs ⟨rfl, rfl, rfl, hl⟩ Y Qy Qn hy hn
    refine turn C D i v m' o' s' E' hi hv Y Qy Qn (fun x s5 h5 => hy x s5 ?_) fun s4 h4 => hn s4 ?_
    · obtain ⟨m2, y, Y2, hr, e2⟩ := h5
      exact ⟨B, m2, μ, y, Sub.refl _, Y2, ⟨rfl, rfl, e2, by rw [← e2]; exact hz _ hi⟩, hr⟩
    · obtain ⟨m2, Y2, e2⟩ := h4
      exact ⟨B, m2, μ, Sub.refl _, Y2, rfl, rfl, e2, hl⟩
  · rintro C D B' m' μ' s' xs hs ⟨rfl, rfl, rfl, hl⟩ Y
    exact done D s' Y
end
end text_LyF
section text_LyG
set_option maxRecDepth 100000
set_option maxHeartbeats 1000000

theorem lookup_of_mem {α : Type} : ∀ {l : List (Str × α)} {n : Str} {c : α}, (l.map (·.1)).Nodup → (n, c) ∈ l → l.lookup n = some c
  | (k, v) :: r, n, c, nd, h => by
    simp only [List.map_cons, List.nodup_cons] at nd
    rw [List.lookup_cons]
    rcases List.mem_cons.mp h with e | e
    · cases e; simp
    · have : (n == k) = false := by
        rw [beq_eq_false_iff_ne]
        intro q
        exact nd.1 (q ▸ List.mem_map_of_mem (f := (·.1)) e)
      rw [this]
      exact lookup_of_mem nd.2 e
theorem cellsFrom_names : ∀ (names : List (Str × NameKind)) (n k : Nat) (acc acc' : List (Str × Addr)), acc.map (·.1) = acc'.map (·.1) → (cellsFrom n names acc).map (·.1) = (cellsFrom k names acc').map (·.1)
  | [], _, _, _, _, h => h
  | (x, kd) :: r, n, k, acc, acc', h => by
    unfold cellsFrom
    split
    · exact cellsFrom_names r (n + 1) (k + 1) _ _ (by simp [h])
    · exact cellsFrom_names r n k _ _ h

section
variable {prog : Program} {w : World} {A : Around} {E : Value → Shared → Prop} {s : Shared} {env : Env} {R : Shared} {B B' : BM} {F : List (Addr × NM)} {μ μ' : Led} {L I : Addr} {m : NM} {K : Frag} {n i : Nat} {P : Nat → Value → Prop} {o : Obj}

theorem St.enterC {cm : NM} {cs : List (Str × Addr)} {s₁ : Shared} (X : St R B F μ s) (C : InCallC s L m cs cm s₁) (hnd : (cs.map (·.1)).Nodup) : St R B ((L, m) :: F) (cellLed cs cm ++ μ) s₁ := by
  obtain ⟨⟨⟨h', tk, rfl⟩, ns, keep, fresh⟩, cell, apart, above⟩ := C
  have Y := X.grow (h' := h') (tk := tk) keep
  have old : ∀ (b : Addr) (o : Obj), s.heap.get? b = some o → b < L := fun b o e => Nat.lt_of_lt_of_le (Heap.lt_size e) fresh
  have bOld : ∀ b, L ≤ b → B b = none := fun b hb => by
    cases q : B b with
    | none => rfl
    | some o => exact absurd (old _ _ (X.keep _ _ q)) (Nat.not_lt.mpr hb)
  have mOld : ∀ p ∈ μ, p.1 < L := fun p hp => let ⟨o, ho, _⟩ := X.led p hp; old _ _ ho
  have fOld : ∀ p ∈ F, p.1 < L := fun p hp => Nat.lt_of_lt_of_le (X.fr p hp).lt fresh
  have cIn : ∀ p ∈ cellLed cs cm, ∃ n c, (n, c) ∈ cs ∧ p = (c, IsC (cm n)) := fun p hp => by
    obtain ⟨⟨n, c⟩, q, e⟩ := List.mem_map.mp hp
    exact ⟨n, c, q, e.symm⟩
  have cKey : (cellLed cs cm).map (·.1) = cs.map (·.2) := by unfold cellLed; rw [List.map_map]; rfl
  have kOut : ∀ x ∈ (cellLed cs cm ++ μ).map (·.1), x ≠ L := fun x hx => by
    rw [List.map_append, List.mem_append, cKey] at hx
    rcases hx with hx | hx
    · obtain ⟨⟨n, c⟩, q, e⟩ := List.mem_map.mp hx
      have h1 := above n c q
      have h2 : c = x := e
      exact Nat.ne_of_gt (h2 ▸ h1)
    · obtain ⟨p, q, e⟩ := List.mem_map.mp hx
      have h1 := mOld p q
      have h2 : p.1 = x := e
      exact Nat.ne_of_lt (h2 ▸ h1)
  refine ⟨fun p hp => ?_, fun p hp => ?_, fun p hp hx => ?_, ?_, Y.keep, fun p hp => ?_, fun p hp => ?_, ?_, Y.gens, Y.os, Y.drawn⟩
  · rcases List.mem_cons.mp hp with rfl | q
    · exact ns
    · exact Y.fr p q
  · rcases List.mem_cons.mp hp with rfl | q
    · exact bOld _ (Nat.le_refl _)
    · exact Y.fb p q
  · rcases List.mem_cons.mp hp with rfl | q
    · exact kOut _ hx rfl
    · rw [List.map_append, List.mem_append, cKey] at hx
      rcases hx with hx | hx
      · obtain ⟨⟨n, c⟩, z, e⟩ := List.mem_map.mp hx
        have h1 := above n c z
        have h2 : c = p.1 := e
        have h3 := fOld p q
        exact Nat.lt_irrefl _ (Nat.lt_trans h3 (h2 ▸ h1))
      · exact Y.fm p q hx
  · simp only [List.map_cons, List.nodup_cons]
    refine ⟨fun hx => ?_, Y.fd⟩
    obtain ⟨p, q, e⟩ := List.mem_map.mp hx
    have h1 := fOld p q
    have h2 : p.1 = L := e
    exact Nat.ne_of_lt h1 h2
  · rcases List.mem_append.mp hp with q | q
    · obtain ⟨n, c, z, rfl⟩ := cIn p q
      exact cell n c (lookup_of_mem hnd z)
    · exact Y.led p q
  · rcases List.mem_append.mp hp with q | q
    · obtain ⟨n, c, z, rfl⟩ := cIn p q
      exact bOld _ (Nat.le_of_lt (above n c z))
    · exact Y.mb p q
  · rw [List.map_append, cKey]
    refine List.nodup_append.mpr ⟨?_, Y.md, fun a ha b hb e => ?_⟩
    · unfold List.Nodup
      exact List.pairwise_map.mpr apart
    · obtain ⟨⟨n, c⟩, z, e1⟩ := List.mem_map.mp ha
      obtain ⟨p, q, e2⟩ := List.mem_map.mp hb
      have h1 := above n c z
      have h2 := mOld p q
      have h3 : c = a := e1
      have h4 : p.1 = b := e2
      exact Nat.lt_irrefl _ (Nat.lt_trans h2 (show L < p.1 from (h3.trans (e.trans h4.symm)) ▸ h1))

/-- a call of a def whose names stand in cells in part -/
theorem call_fnC {n : Nat} {Q : Value → Shared → Prop} {name qual : Str} {params : Arguments} {body : List Stmt} {scope : Scope} {dV kV doc pm cdv ct oc : Value} {an od : Option Addr} {osl : Array (Option Value)} {f : Addr} {pos : List Value} {kw : List (Str × Value)} {binds : List (Str × Value)}
    (hB : Base K B) (hA : Cx A (n + 1)) (X : St R B F μ s)
    (ho : K.lookup f = some ⟨oc, od, .func (fnOf name qual params body scope dV kV doc pm an cdv ct), osl⟩) (hcd : codeIn K cdv qual = true)
    (hbind : BindsTo s (fnOf name qual params body scope dV kV doc pm an cdv ct) ⟨pos, kw⟩ binds)
    (hkind : (binds.all fun y => scope.names.lookup y.1 == some .local || scope.names.lookup y.1 == some .cell) = true) (hnd : ((cellsFrom 0 scope.names []).map (·.1)).Nodup)
    (h : ∀ L A' s₁, Cx A' n → A'.frames = A.frames.map (envOfC qual scope L f cdv :: ·) →
      St R B ((L, bindL (envOfC qual scope L f cdv).kindOf binds fun _ => none) :: F) (cellLed (cellsFrom (L + 1) scope.names []) (bindC (envOfC qual scope L f cdv).kindOf binds fun _ => none) ++ μ) s₁ →
      ∀ En : Value → Shared → Prop, wpAny (model prog w) A' (execs body (envOfC qual scope L f cdv)) (fun fl s' => Q (retV fl) s') En s₁)
    (hco : scope.isCoroutine = false := by rfl) (hgen : scope.isGenerator = false := by rfl) (hk : scope.kind = .function := by rfl) :
    wpAny (model prog w) A (call (.ref f) pos kw) Q E s := by
  obtain ⟨H, p, l, me, mg, mb, a, b, c⟩ := hB.top
  have hk' : ∀ y o, H.get? y = some o → s.heap.get? y = some o := fun y o e => X.keep y o (a y o e)
  have KX : K.In s.heap := fun y o e => hk' _ _ (b y o e)
  have hlim := c.nolimit.keeps hk'
  refine wpAny_call (codeAny_call_function hA.room (KX _ _ ho) rfl hco hgen rfl (codeRec_of KX hcd) (hbind _ _ _ _ ?_))
  refine wpAny_newFunctionEnv_cells hk (kindsX hkind _) fun env he s' x => ?_
  subst he
  refine ⟨hlim.keeps x.toInCall.keep, codeAny_func ?_⟩
  exact h s.heap.objs.size (A.deeper (envOfC qual scope s.heap.objs.size f cdv)) s' (hA.deeper _) rfl (X.enterC x (by
    have e := cellsFrom_names scope.names (s.heap.objs.size + 1) 0 [] [] rfl
    show ((cellsFrom (s.heap.objs.size + 1) scope.names []).map (·.1)).Nodup
    rw [e]; exact hnd)) _
end
end text_LyG
section text_LyH
set_option maxRecDepth 100000
set_option maxHeartbeats 1000000

/-- objects in a row: addresses and what stands there -/
noncomputable def zl {α : Type} (P : α → Obj → Prop) (as : List Addr) (xs : List α) : Led := List.zipWith (fun a x => (a, P x)) as xs
section
variable {α : Type} {P : α → Obj → Prop}
theorem zl_mem : ∀ {as : List Addr} {xs : List α} {i : Nat} {a : Addr} {x : α}, as[i]? = some a → xs[i]? = some x → (a, P x) ∈ zl P as xs
  | [], _, _, _, _, h, _ => by simp at h
  | _ :: _, [], _, _, _, _, h => by simp at h
  | b :: as, y :: xs, 0, a, x, h, h' => by simp at h h'; subst h; subst h'; exact .head _
  | b :: as, y :: xs, i + 1, a, x, h, h' => .tail _ (zl_mem (by simpa using h) (by simpa using h'))
theorem zl_set {μ : Led} {x' : α} : ∀ {as : List Addr} {xs : List α} {i : Nat} {a : Addr} {x : α}, as[i]? = some a → xs[i]? = some x → Set1 a (P x) (P x') (zl P as xs ++ μ) (zl P as (xs.set i x') ++ μ)
  | [], _, _, _, _, h, _ => by simp at h
  | _ :: _, [], _, _, _, _, h => by simp at h
  | b :: as, y :: xs, 0, a, x, h, h' => by simp at h h'; subst h; subst h'; exact .head
  | b :: as, y :: xs, i + 1, a, x, h, h' => .tail (zl_set (by simpa using h) (by simpa using h'))
theorem zl_snoc {as : List Addr} {xs : List α} (hl : as.length = xs.length) (a : Addr) (x : α) : zl P (as ++ [a]) (xs ++ [x]) = zl P as xs ++ [(a, P x)] := by
  unfold zl; rw [List.zipWith_append hl]; rfl
theorem zl_cons (a : Addr) (x : α) (as : List Addr) (xs : List α) : zl P (a :: as) (x :: xs) = (a, P x) :: zl P as xs := rfl
end
noncomputable def TupB (B : BM) (a : Addr) (vs : List Value) : Prop := ∃ n, B a = some { cls := .type "tuple", data := .seq vs.toArray n }
noncomputable def AddrV (a : Addr) (v : Value) : Prop := v = .ref a
theorem all2_addr : ∀ as : List Addr, All2 AddrV as (as.map Value.ref)
  | [] => .nil
  | _ :: as => .cons rfl (all2_addr as)

theorem Set1.app {a : Addr} {P P' : Obj → Prop} : ∀ {ν : Led} {μ μ' : Led}, Set1 a P P' μ μ' → Set1 a P P' (ν ++ μ) (ν ++ μ')
  | [], _, _, h => h
  | _ :: _, _, _, h => .tail (Set1.app h)

section
variable {prog : Program} {w : World} {A : Around} {E : Value → Shared → Prop} {s : Shared} {env : Env} {R : Shared} {B B' : BM} {F : List (Addr × NM)} {μ μ' : Led} {L I : Addr} {m : NM} {K : Frag} {n i : Nat} {P : Nat → Value → Prop} {o : Obj}
/-- [v] * 7 -/
theorem mul7 {α : Type} {rel : α → Value → Prop} {x : α} {l : Addr} {u : Tok} {Q : Value → Shared → Prop} (X : St R B F μ s) (hl : (l, XL rel [x]) ∈ μ) (h : ∀ a s', St R B F ((a, XL rel (List.replicate 7 x)) :: μ) s' → Q (.ref a) s') :
    wpAny (model prog w) A (binaryOp .Mult (.ref l) (.int 7 u)) Q E s := by
  obtain ⟨vs, k, r, e⟩ := X.lst (.inr hl)
  cases r with
  | @cons _ v _ _ hv r =>
    cases r
    have hl : s.heap.get? l = some { cls := .type "list", dict := none, data := .seq #[v] k, slots := #[] } := e
    refine wpAny_binaryOp_repeat_ref (T := "list") (U := "int") (by decide) ⟨_, hl, rfl⟩ (fun s' => typeIs_int s' 7 u) noFill_list_mul PySem.F.fills_int_mul PySem.F.slot_int_rmul repeat_list PySem.F.slot_int_index.lookup
      (call_meets PySem.F.slot_int_rmul (typeIs_int s 7 u) PySem.F.entry_int_rmul (PySem.F.args_int_rmul_2 _ _) (int___rmul___int_list 7 u l _ k)
      ⟨hl, rfl, ⟨_, hl, rfl⟩, call_meets PySem.F.slot_list_mul ⟨_, hl, rfl⟩ PySem.F.entry_list_mul (PySem.F.args_list_mul_2 _ _)
        (AutoListH.list___mul___list_int_3 l _ k 7 u (by decide) (by simp) (by simp [Builtin.List.listTooLong, sizeLine]))
        ⟨hl, h _ _ (X.new (tk := s.toks) ?_)⟩⟩)
    exact ⟨[v, v, v, v, v, v, v], .cons hv (.cons hv (.cons hv (.cons hv (.cons hv (.cons hv (.cons hv .nil)))))), 0, rfl⟩
theorem add_l {α : Type} {rel : α → Value → Prop} {xs ys : List α} {l b : Addr} {Q : Value → Shared → Prop} (X : St R B F μ s) (hl : LAt B μ l rel xs) (hb : LAt B μ b rel ys) (hz : xs.length + ys.length ≤ 1000)
    (h : ∀ a s', St R B F ((a, XL rel (xs ++ ys)) :: μ) s' → Q (.ref a) s') : wpAny (model prog w) A (binaryOp .Add (.ref l) (.ref b)) Q E s := by
  obtain ⟨vs, k, r, e⟩ := X.lst hl
  obtain ⟨us, k2, r2, e2⟩ := X.lst hb
  have l1 := r.length
  have l2 := r2.length
  have q : vs.toArray ++ us.toArray = (vs ++ us).toArray := by simp
  refine concat_meets ⟨_, e, rfl⟩ ⟨_, e2, rfl⟩ noFill_list_add seq_list_add PySem.F.slot_list_add PySem.F.entry_list_add (PySem.F.args_list_add_2 _ _) (list_addW l b vs.toArray us.toArray k k2 none none #[] #[] (by rw [sizeLine_eq, List.size_toArray, List.size_toArray]; (first | lia | omega))) ⟨e, e2, ?_⟩
  rw [q]
  exact h _ _ (X.new (tk := s.toks) ⟨vs ++ us, r.append r2, 0, rfl⟩)
end
inductive Pick {α : Type} (x : α) : List α → List α → Prop
  | head {r} : Pick x (x :: r) r
  | tail {y l l'} : Pick x l l' → Pick x (y :: l) (y :: l')
  | appR {ys l l'} : Pick x l l' → Pick x (ys ++ l) (ys ++ l')
  | appL {ys l l'} : Pick x l l' → Pick x (l ++ ys) (l' ++ ys)
theorem Pick.perm {α : Type} {x : α} {l l' : List α} (h : Pick x l l') : l.Perm (x :: l') := by
  induction h with
  | head => exact .refl _
  | tail _ ih => exact (ih.cons _).trans (.swap _ _ _)
  | appR _ ih => exact (ih.append_left _).trans List.perm_middle
  | appL _ ih => exact ih.append_right _
theorem perm_cons_of {α : Type} {x : α} {l l' r : List α} (h : Pick x l l') (h' : l'.Perm r) : l.Perm (x :: r) := h.perm.trans (h'.cons x)
inductive PickB {α : Type} (b : List α) : List α → List α → Prop
  | head {r} : PickB b (b ++ r) r
  | all : PickB b b []
  | tail {y l l'} : PickB b l l' → PickB b (y :: l) (y :: l')
  | appR {ys l l'} : PickB b l l' → PickB b (ys ++ l) (ys ++ l')
  | appL {ys l l'} : PickB b l l' → PickB b (l ++ ys) (l' ++ ys)
theorem PickB.perm {α : Type} {b l l' : List α} (h : PickB b l l') : l.Perm (b ++ l') := by
  induction h with
  | head => exact .refl _
  | all => simp
  | tail _ ih => exact (ih.cons _).trans List.perm_middle.symm
  | @appR ys l l' _ ih =>
    refine (ih.append_left ys).trans ?_
    rw [← List.append_assoc, ← List.append_assoc]
    exact List.perm_append_comm.append_right _
  | appL _ ih => rw [← List.append_assoc]; exact ih.append_right _
theorem perm_app_of {α : Type} {b l l' r : List α} (h : PickB b l l') (h' : l'.Perm r) : l.Perm (b ++ r) := h.perm.trans (h'.append_left b)
theorem all2_ints {ns : List Int} {vs : List Value} (h : IntsAre vs ns) : All2 IntV ns vs := by
  induction h with
  | nil => exact .nil
  | cons n t _ ih => exact .cons ⟨t, rfl⟩ ih
section
variable {prog : Program} {w : World} {A : Around} {E : Value → Shared → Prop} {s : Shared} {env : Env} {R : Shared} {B B' : BM} {F : List (Addr × NM)} {μ μ' : Led} {L I : Addr} {m : NM}
theorem b_fdiv {a b : Int} {t u : Tok} {Q : Value → Shared → Prop} (X : St R B F μ s) (hb : b ≠ 0) (h1 : b.natAbs < 1000) (h : ∀ t s', St R B F μ s' → Q (.int (a.fdiv b) t) s') : wpAny (model prog w) A (binaryOp .FloorDiv (.int a t) (.int b u)) Q E s :=
  floordiv_int hb (h _ _ (X.toks _)) (.inl (PyProof.noPylong_small (by (first | lia | omega))))
theorem slice_upto {value slice : Expr} {l : Addr} {vs : List Value} {ns : List Int} {c : Nat} {k : Int} {t : Tok} {Q : Value → Shared → Prop} (X : St R B F μ s) (hl : B l = some (listOf vs.toArray c)) (hi : IntsAre vs ns) (h0 : 0 ≤ k) (hz : ns.length ≤ 1000)
    (h : ∀ a s', St R B F ((a, XL IntV (ns.take k.toNat)) :: μ) s' → Q (.ref a) s')
    (hs : subscripted slice false (.ref l) (.ref s.heap.objs.size) = operate [.ref s.heap.objs.size, .ref l] (getItem (.ref l) (.ref s.heap.objs.size)) := by with_unfolding_all rfl)
    (ht : ∀ r, letTemporaryGo value (.ref l) r = pure () := by intro _; with_unfolding_all rfl) :
    wpAny (model prog w) A (subscriptTail value slice (.ref l) (.ref s.heap.objs.size)) Q E { s with heap := s.heap.push { cls := .type "slice", data := .fields #[.none, .int k t, .none] } } := by
  have e := X.keep _ _ hl
  have hlen := hi.length
  refine slice_listK (isList_of e) .none (.int k t) ?_ hs ht (by rw [sizeLine_eq, List.size_toArray]; (first | lia | omega))
  have Y := X.grow (h' := s.heap.push { cls := .type "slice", data := .fields #[.none, .int k t, .none] }) (tk := s.toks) fun b o e => Heap.get?_push_of_some _ e
  have Z := Y.new (tk := s.toks) (o := { cls := .type "list", data := .seq (slicePick vs.toArray none (some k) none) }) (P := XL IntV (ns.take k.toNat)) ⟨_, all2_ints (slice_ints_uptoW hi h0), 0, by simp⟩
  have hsz : (s.heap.push { cls := .type "slice", data := .fields #[.none, .int k t, .none] }).objs.size = s.heap.objs.size + 1 := Heap.size_push ..
  rw [show ({ s with heap := s.heap.push { cls := .type "slice", data := .fields #[.none, .int k t, .none] }, toks := s.toks } : Shared).heap.objs.size = s.heap.objs.size + 1 from hsz] at Z
  exact h _ _ Z
end
end text_LyH
section text_LyI
set_option maxRecDepth 100000
set_option maxHeartbeats 1000000
section
variable {prog : Program} {w : World} {A : Around} {E : Value → Shared → Prop} {s : Shared} {env : Env} {R : Shared} {B B' : BM} {F : List (Addr × NM)} {μ μ' : Led} {L I : Addr} {m : NM} {K : Frag}
theorem newPair {a b : Int} {t u : Tok} {Q : Value → Shared → Prop} (hB : Base K B) (X : St R B F μ s) (h : ∀ B' p s', Sub B B' → Base K B' → PairB B' (a, b) (.ref p) → St R B' F μ s' → Q (.ref p) s') :
    wpAny (model prog w) A (newTuple [.int a t, .int b u]) Q E s := by
  refine newTup_ (P := fun o => ∃ n, o = pairObj (a, b) t u n) X (fun n => ⟨n, rfl⟩) (by simp) fun p s' X' => ?_
  obtain ⟨B', hs, ⟨o, ho, n, rfl⟩, _, X'⟩ := X'.freeze
  exact h B' p s' hs (hB.sub hs) ⟨p, t, u, n, rfl, ho⟩ X'
end
end text_LyI
section text_LyJ
set_option maxRecDepth 100000
set_option maxHeartbeats 1000000
noncomputable def bestO (lt : Int → Int → Bool) (b : Option Int) (x : Int) : Option Int := match b with | none => some x | some b => if lt x b then some x else some b
noncomputable def BestP (b : Option Int) : Obj → Prop := fun o => match b with | none => ∃ n, o = listOf #[] n | some b => ∃ v n, IntV b v ∧ o = listOf #[v, v] n
theorem bestO_some (lt : Int → Int → Bool) : ∀ (xs : List Int) (b : Option Int), (b ≠ none ∨ xs ≠ []) → xs.foldl (bestO lt) b ≠ none
  | [], b, h => by simpa using h
  | x :: xs, b, _ => bestO_some lt xs _ (.inl (by unfold bestO; split <;> (try split) <;> simp))
section
variable {prog : Program} {w : World} {A : Around} {E : Value → Shared → Prop} {s : Shared} {env : Env} {R : Shared} {B B' : BM} {F : List (Addr × NM)} {μ μ' : Led} {L I S : Addr} {m : NM} {K : Frag} {n : Nat} {P : Nat → Value → Prop} {T : String}
theorem St.sharp {a : Addr} {P : Obj → Prop} (X : St R B F ((a, P) :: μ) s) : ∃ o, P o ∧ s.heap.get? a = some o ∧ St R B F ((a, ItP o) :: μ) s := by
  obtain ⟨o, ho, hP⟩ := X.led (a, P) (.head _)
  refine ⟨o, hP, ho, X.fr, X.fb, X.fm, X.fd, X.keep, fun p hp => ?_, fun p hp => ?_, X.md, X.gens, X.os, X.drawn⟩
  · rcases List.mem_cons.mp hp with rfl | e
    · exact ⟨o, ho, rfl⟩
    · exact X.led p (.tail _ e)
  · rcases List.mem_cons.mp hp with rfl | e
    · exact X.mb (a, P) (.head _)
    · exact X.mb p (.tail _ e)
theorem St.at1 {a : Addr} {o : Obj} (X : St R B F ((a, ItP o) :: μ) s) : s.heap.get? a = some o := by
  obtain ⟨o', ho, rfl⟩ := X.led (a, ItP o) (.head _)
  exact ho
theorem St.upd {a : Addr} {xs : Array Value} {c : Nat} (X : St R B F ((a, ItP (listOf xs c)) :: μ) s) (f : Array Value → Array Value) {P : Obj → Prop} {tk : Nat} (hP : ∀ n, P (listOf (f xs) n)) : St R B F ((a, P) :: μ) { s with heap := s.heap.update a (Obj.mapSeq f), toks := tk } :=
  X.set1 .head (Heap.SameBut.update ..) ⟨_, PySem.IsL.update X.at1 f, hP _⟩

noncomputable def minI (xs : List Int) : Option Int := xs.foldl (bestO fun x b => decide (x < b)) none
theorem min_loop {xs : List Int} {kw : List (Str × Value)} {Rr : Result → Shared → Prop} (hn : n = xs.length) (hP : ∀ i v, P i v → ∃ x, xs[i]? = some x ∧ IntV x v) :
    ∀ (k j : Nat) (s : Shared) (o : Obj) (b : Option Int), k = n - j → j ≤ n → IterAt T prog w A.in1 B I n P j s.heap → St R B F ((I, ItP o) :: (S, BestP b) :: μ) s → (kw = [] → (xs.drop j).foldl (bestO fun x b => decide (x < b)) b ≠ none) →
    (∀ v s', St R B F μ s' → (match (xs.drop j).foldl (bestO fun x b => decide (x < b)) b with | some b => IntV b v | none => ∃ k r, kw = (k, v) :: r) → Rr (.ok (.ret v)) s') →
    codeAny (model prog w) A (.builtin "min.loop" ⟨[.ref I, .none, .ref S], kw⟩) Rr s := by
  have hname : (toString "min" ++ toString ".loop" : String) = "min.loop" := by decide
  intro k
  induction k with
  | zero =>
    intro j s o b hk hj TT X hkw hR
    have hj : j = n := by (first | lia | omega)
    subst hj
    have hd : xs.drop j = [] := by rw [hn]; exact List.drop_length
    rw [hd] at hkw hR
    obtain ⟨ob, hb, hob, X⟩ := (X.perm (.swap _ _ _)).sharp
    have X := X.perm (.swap _ _ _)
    refine codeAny_builtin PySem.F.entry_min_loop ?_
    rw [Around.under_plainId PySem.F.plain_min_loop _]
    cases b with
    | none =>
      obtain ⟨c, rfl⟩ := hb
      show wpAny _ A.in1 (seqItems? (.ref S) >>= _) _ _ s
      refine wpAny_bind (wpAny_seqItems hob rfl ?_)
      show wpAny _ A.in1 (tryCatch (pyNext (.ref I)) _ >>= _) _ _ s
      refine wpAny_bind (wpAny_tryCatch (next_done X TT fun s' X' => ?_))
      cases kw with
      | nil => exact absurd rfl (hkw rfl)
      | cons p r =>
        obtain ⟨pk, d⟩ := p
        refine wpAny_bind (wpAny_rule ?_)
        exact wpAny_pure (hR d s' X'.drop1 ⟨pk, r, rfl⟩)
    | some b =>
      obtain ⟨vb, c, hvb, rfl⟩ := hb
      show wpAny _ A.in1 (seqItems? (.ref S) >>= _) _ _ s
      refine wpAny_bind (wpAny_seqItems hob rfl ?_)
      show wpAny _ A.in1 (tryCatch (pyNext (.ref I)) _ >>= _) _ _ s
      refine wpAny_bind (wpAny_tryCatch (next_done X TT fun s' X' => ?_))
      show wpAny _ A.in1 (updateSeq S (fun _ => #[]) >>= _) _ _ _
      refine wpAny_bind ?_
      refine wpAny_updateSeq X'.at1 rfl (wpAny_bind (wpAny_letGo (wpAny_pure ?_)))
      exact hR vb _ (X'.upd (fun _ => #[]) (P := fun _ => True) (fun _ => trivial)).drop1 hvb
  | succ k ih =>
    intro j s o b hk hj TT X hkw hR
    have hlt : j < n := by (first | lia | omega)
    obtain ⟨x, hx⟩ : ∃ x, xs[j]? = some x := ⟨xs[j]'(by (first | lia | omega)), List.getElem?_eq_getElem _⟩
    have hd : xs.drop j = x :: xs.drop (j + 1) := by
      obtain ⟨hl, e⟩ := List.getElem?_eq_some_iff.mp hx
      rw [List.drop_eq_getElem_cons hl, e]
    rw [hd, List.foldl_cons] at hkw hR
    obtain ⟨ob, hb, hob, X⟩ := (X.perm (.swap _ _ _)).sharp
    have X := X.perm (.swap _ _ _)
    refine codeAny_builtin PySem.F.entry_min_loop ?_
    rw [Around.under_plainId PySem.F.plain_min_loop _]
    cases b with
    | none =>
      obtain ⟨c, rfl⟩ := hb
      show wpAny _ A.in1 (seqItems? (.ref S) >>= _) _ _ s
      refine wpAny_bind (wpAny_seqItems hob rfl ?_)
      show wpAny _ A.in1 (tryCatch (pyNext (.ref I)) _ >>= _) _ _ s
      refine wpAny_bind (wpAny_tryCatch (next_item X TT hlt fun v o' s' hv T' X' => ?_))
      obtain ⟨x', hx', hxv⟩ := hP _ _ hv
      rw [hx] at hx'; cases hx'
      have X' := X'.perm (.swap _ _ _)
      show wpAny _ A.in1 (updateSeq S (fun _ => #[v, v]) >>= _) _ _ _
      refine wpAny_bind ?_
      refine wpAny_updateSeq X'.at1 rfl ?_
      rw [hname]
      have Z := (X'.upd (tk := s'.toks) (fun _ => #[v, v]) (P := BestP (some x)) (fun c => ⟨v, c, hxv, rfl⟩)).perm (.swap _ _ _)
      exact wpAny_pure ⟨plainId_quiet PySem.F.plain_min_loop _, ih (j + 1) _ o' (some x) (by (first | lia | omega)) hlt (T'.keep (X'.perm (.swap _ _ _)) Z) Z hkw hR⟩
    | some b =>
      obtain ⟨vb, c, ⟨tb, rfl⟩, rfl⟩ := hb
      show wpAny _ A.in1 (seqItems? (.ref S) >>= _) _ _ s
      refine wpAny_bind (wpAny_seqItems hob rfl ?_)
      show wpAny _ A.in1 (tryCatch (pyNext (.ref I)) _ >>= _) _ _ s
      refine wpAny_bind (wpAny_tryCatch (next_item X TT hlt fun v o' s' hv T' X' => ?_))
      obtain ⟨x', hx', tx, rfl⟩ := hP _ _ hv
      rw [hx] at hx'; cases hx'
      have X' := X'.perm (.swap _ _ _)
      show wpAny _ A.in1 (tryCatch (holding [_, _] (richCompare .Lt (.int x tx) (.int b tb) >>= _)) _ >>= _) _ _ _
      refine wpAny_bind (wpAny_tryCatch (wpAny_holding (wpAny_bind (show wpAny _ A.in1 (compareOp .Lt (.int x tx) (.int b tb)) _ _ _ from lt_int ?_))))
      refine wpAny_bind (wpAny_holding (wpAny_truthy_bool ?_))
      refine wpAny_bind (wpAny_letGo (wpAny_pure ?_))
      cases hb : decide (x < b) with
      | true =>
        have hb2 : bestO (fun x b => decide (x < b)) (some b) x = some x := by unfold bestO; simp only [hb, if_true]
        rw [hb2] at hkw hR
        simp only [if_true]
        refine wpAny_bind ?_
        refine wpAny_updateSeq X'.at1 rfl (wpAny_bind (wpAny_letGo ?_))
        rw [hname]
        have Z := (X'.upd (tk := s'.toks) (fun _ => #[.int x tx, .int x tx]) (P := BestP (some x)) (fun c => ⟨_, c, ⟨_, rfl⟩, rfl⟩)).perm (.swap _ _ _)
        exact wpAny_pure ⟨plainId_quiet PySem.F.plain_min_loop _, ih (j + 1) _ o' (some x) (by (first | lia | omega)) hlt (T'.keep (X'.perm (.swap _ _ _)) Z) Z hkw hR⟩
      | false =>
        have hb2 : bestO (fun x b => decide (x < b)) (some b) x = some b := by unfold bestO; simp only [hb, Bool.false_eq_true, if_false]
        rw [hb2] at hkw hR
        simp only [Bool.false_eq_true, if_false]
        refine wpAny_bind (wpAny_letGo ?_)
        rw [hname]
        have Z := (X'.weak1 (P' := BestP (some b)) (fun o ho => ⟨_, c, ⟨_, rfl⟩, ho⟩)).perm (.swap _ _ _)
        exact wpAny_pure ⟨plainId_quiet PySem.F.plain_min_loop _, ih (j + 1) _ o' (some b) (by (first | lia | omega)) hlt T' Z hkw hR⟩
theorem min_args0 (a : Value) : argsOk "min" ⟨[a], []⟩ := by unfold argsOk; kernel_rfl
theorem min_argsD (a d : Value) : argsOk "min" ⟨[a], [(Str.ofString "default", d)]⟩ := by unfold argsOk; kernel_rfl
theorem min_argsDK (a d k : Value) : argsOk "min" ⟨[a], [(Str.ofString "default", d), (Str.ofString "key", k)]⟩ := by unfold argsOk; kernel_rfl
/-- min of ints, a key of None at most -/
theorem min_gen {x : Value} {kw : List (Str × Value)} {d : List Value} {B₀ : BM} {μ₀ : Led} {Q : Value → Shared → Prop} (X₀ : St R B₀ F μ₀ s) (ha : argsOk "min" ⟨[x], kw⟩)
    (hbp : ∃ ky dv, Builtin.Builtins.bindParams "min" ["key", "default"] 0 ⟨[], kw⟩ = pure [ky, dv] ∧ ky.getD .none = .none ∧ dv.toList = d)
    (h : wpAny (model prog w) A.in1 (pyIter x) (fun it s₂ => ∃ I n P o T B μ xs, it = .ref I ∧ IterAt T prog w A.in1 B I n P 0 s₂.heap ∧ St R B F ((I, ItP o) :: μ) s₂ ∧ n = xs.length ∧ (∀ i v, P i v → ∃ x, xs[i]? = some x ∧ IntV x v) ∧ (d = [] → xs ≠ []) ∧
      ∀ v s', St R B F μ s' → (match minI xs with | some b => IntV b v | none => ∃ r, d = v :: r) → Q v s') E s) :
    wpAny (model prog w) A (call (.builtin "min") [x] kw) Q E s := by
  obtain ⟨ky, dv, hb, hk, rfl⟩ := hbp
  have hname : (toString "min" ++ toString ".loop" : String) = "min.loop" := by decide
  refine kmk_tree PySem.F.kind_min PySem.F.plain_min PySem.F.entry_min ha ?_
  show wpAny _ A.in1 (Builtin.Builtins.bindParams "min" ["key", "default"] 0 ⟨[], kw⟩ >>= _) _ _ s
  refine wpAny_bind (wpAny_of_eq hb ?_)
  refine wpAny_bind (wpAny_pure ?_)
  refine wpAny_bind (wpAny_mono h (fun it s₂ h₂ => ?_) fun _ _ e => e)
  obtain ⟨I, n, P, o, T, B, μ, xs, rfl, TT, X, hn, hP, hd, hQ⟩ := h₂
  refine wpAny_bind (wpAny_newObj_type ?_)
  rw [hname, hk]
  have Z := (X.new (tk := s₂.toks) (o := { cls := .type "list", data := .seq #[] }) (P := BestP none) ⟨_, rfl⟩).perm (.swap _ _ _)
  refine wpAny_pure ⟨plainId_quiet PySem.F.plain_min_loop _, min_loop hn hP _ 0 _ o none rfl (Nat.zero_le _) (TT.keep X Z) Z (fun hk => ?_) fun v s' X' hv => hQ v s' X' ?_⟩
  · refine bestO_some _ _ _ (.inr ?_)
    cases dv with
    | none => simpa using hd rfl
    | some d => simp at hk
  · rw [List.drop_zero] at hv
    unfold minI
    split
    · rename_i b e; rw [e] at hv; exact hv
    · rename_i e; rw [e] at hv
      obtain ⟨k, r, e2⟩ := hv
      cases dv with
      | none => simp at e2
      | some d => simp at e2; exact ⟨[], by simp [e2.1]⟩

noncomputable def maxI (xs : List Int) : Option Int := xs.foldl (bestO fun x b => decide (x > b)) none
theorem max_loop {xs : List Int} {kw : List (Str × Value)} {Rr : Result → Shared → Prop} (hn : n = xs.length) (hP : ∀ i v, P i v → ∃ x, xs[i]? = some x ∧ IntV x v) :
    ∀ (k j : Nat) (s : Shared) (o : Obj) (b : Option Int), k = n - j → j ≤ n → IterAt T prog w A.in1 B I n P j s.heap → St R B F ((I, ItP o) :: (S, BestP b) :: μ) s → (kw = [] → (xs.drop j).foldl (bestO fun x b => decide (x > b)) b ≠ none) →
    (∀ v s', St R B F μ s' → (match (xs.drop j).foldl (bestO fun x b => decide (x > b)) b with | some b => IntV b v | none => ∃ k r, kw = (k, v) :: r) → Rr (.ok (.ret v)) s') →
    codeAny (model prog w) A (.builtin "max.loop" ⟨[.ref I, .none, .ref S], kw⟩) Rr s := by
  have hname : (toString "max" ++ toString ".loop" : String) = "max.loop" := by decide
  intro k
  induction k with
  | zero =>
    intro j s o b hk hj TT X hkw hR
    have hj : j = n := by (first | lia | omega)
    subst hj
    have hd : xs.drop j = [] := by rw [hn]; exact List.drop_length
    rw [hd] at hkw hR
    obtain ⟨ob, hb, hob, X⟩ := (X.perm (.swap _ _ _)).sharp
    have X := X.perm (.swap _ _ _)
    refine codeAny_builtin PySem.F.entry_max_loop ?_
    rw [Around.under_plainId PySem.F.plain_max_loop _]
    cases b with
    | none =>
      obtain ⟨c, rfl⟩ := hb
      show wpAny _ A.in1 (seqItems? (.ref S) >>= _) _ _ s
      refine wpAny_bind (wpAny_seqItems hob rfl ?_)
      show wpAny _ A.in1 (tryCatch (pyNext (.ref I)) _ >>= _) _ _ s
      refine wpAny_bind (wpAny_tryCatch (next_done X TT fun s' X' => ?_))
      cases kw with
      | nil => exact absurd rfl (hkw rfl)
      | cons p r =>
        obtain ⟨pk, d⟩ := p
        refine wpAny_bind (wpAny_rule ?_)
        exact wpAny_pure (hR d s' X'.drop1 ⟨pk, r, rfl⟩)
    | some b =>
      obtain ⟨vb, c, hvb, rfl⟩ := hb
      show wpAny _ A.in1 (seqItems? (.ref S) >>= _) _ _ s
      refine wpAny_bind (wpAny_seqItems hob rfl ?_)
      show wpAny _ A.in1 (tryCatch (pyNext (.ref I)) _ >>= _) _ _ s
      refine wpAny_bind (wpAny_tryCatch (next_done X TT fun s' X' => ?_))
      show wpAny _ A.in1 (updateSeq S (fun _ => #[]) >>= _) _ _ _
      refine wpAny_bind ?_
      refine wpAny_updateSeq X'.at1 rfl (wpAny_bind (wpAny_letGo (wpAny_pure ?_)))
      exact hR vb _ (X'.upd (fun _ => #[]) (P := fun _ => True) (fun _ => trivial)).drop1 hvb
  | succ k ih =>
    intro j s o b hk hj TT X hkw hR
    have hlt : j < n := by (first | lia | omega)
    obtain ⟨x, hx⟩ : ∃ x, xs[j]? = some x := ⟨xs[j]'(by (first | lia | omega)), List.getElem?_eq_getElem _⟩
    have hd : xs.drop j = x :: xs.drop (j + 1) := by
      obtain ⟨hl, e⟩ := List.getElem?_eq_some_iff.mp hx
      rw [List.drop_eq_getElem_cons hl, e]
    rw [hd, List.foldl_cons] at hkw hR
    obtain ⟨ob, hb, hob, X⟩ := (X.perm (.swap _ _ _)).sharp
    have X := X.perm (.swap _ _ _)
    refine codeAny_builtin PySem.F.entry_max_loop ?_
    rw [Around.under_plainId PySem.F.plain_max_loop _]
    cases b with
    | none =>
      obtain ⟨c, rfl⟩ := hb
      show wpAny _ A.in1 (seqItems? (.ref S) >>= _) _ _ s
      refine wpAny_bind (wpAny_seqItems hob rfl ?_)
      show wpAny _ A.in1 (tryCatch (pyNext (.ref I)) _ >>= _) _ _ s
      refine wpAny_bind (wpAny_tryCatch (next_item X TT hlt fun v o' s' hv T' X' => ?_))
      obtain ⟨x', hx', hxv⟩ := hP _ _ hv
      rw [hx] at hx'; cases hx'
      have X' := X'.perm (.swap _ _ _)
      show wpAny _ A.in1 (updateSeq S (fun _ => #[v, v]) >>= _) _ _ _
      refine wpAny_bind ?_
      refine wpAny_updateSeq X'.at1 rfl ?_
      rw [hname]
      have Z := (X'.upd (tk := s'.toks) (fun _ => #[v, v]) (P := BestP (some x)) (fun c => ⟨v, c, hxv, rfl⟩)).perm (.swap _ _ _)
      exact wpAny_pure ⟨plainId_quiet PySem.F.plain_max_loop _, ih (j + 1) _ o' (some x) (by (first | lia | omega)) hlt (T'.keep (X'.perm (.swap _ _ _)) Z) Z hkw hR⟩
    | some b =>
      obtain ⟨vb, c, ⟨tb, rfl⟩, rfl⟩ := hb
      show wpAny _ A.in1 (seqItems? (.ref S) >>= _) _ _ s
      refine wpAny_bind (wpAny_seqItems hob rfl ?_)
      show wpAny _ A.in1 (tryCatch (pyNext (.ref I)) _ >>= _) _ _ s
      refine wpAny_bind (wpAny_tryCatch (next_item X TT hlt fun v o' s' hv T' X' => ?_))
      obtain ⟨x', hx', tx, rfl⟩ := hP _ _ hv
      rw [hx] at hx'; cases hx'
      have X' := X'.perm (.swap _ _ _)
      show wpAny _ A.in1 (tryCatch (holding [_, _] (richCompare .Gt (.int x tx) (.int b tb) >>= _)) _ >>= _) _ _ _
      refine wpAny_bind (wpAny_tryCatch (wpAny_holding (wpAny_bind (show wpAny _ A.in1 (compareOp .Gt (.int x tx) (.int b tb)) _ _ _ from gt_int ?_))))
      refine wpAny_bind (wpAny_holding (wpAny_truthy_bool ?_))
      refine wpAny_bind (wpAny_letGo (wpAny_pure ?_))
      cases hb : decide (x > b) with
      | true =>
        have hb2 : bestO (fun x b => decide (x > b)) (some b) x = some x := by unfold bestO; simp only [hb, if_true]
        rw [hb2] at hkw hR
        simp only [if_true]
        refine wpAny_bind ?_
        refine wpAny_updateSeq X'.at1 rfl (wpAny_bind (wpAny_letGo ?_))
        rw [hname]
        have Z := (X'.upd (tk := s'.toks) (fun _ => #[.int x tx, .int x tx]) (P := BestP (some x)) (fun c => ⟨_, c, ⟨_, rfl⟩, rfl⟩)).perm (.swap _ _ _)
        exact wpAny_pure ⟨plainId_quiet PySem.F.plain_max_loop _, ih (j + 1) _ o' (some x) (by (first | lia | omega)) hlt (T'.keep (X'.perm (.swap _ _ _)) Z) Z hkw hR⟩
      | false =>
        have hb2 : bestO (fun x b => decide (x > b)) (some b) x = some b := by unfold bestO; simp only [hb, Bool.false_eq_true, if_false]
        rw [hb2] at hkw hR
        simp only [Bool.false_eq_true, if_false]
        refine wpAny_bind (wpAny_letGo ?_)
        rw [hname]
        have Z := (X'.weak1 (P' := BestP (some b)) (fun o ho => ⟨_, c, ⟨_, rfl⟩, ho⟩)).perm (.swap _ _ _)
        exact wpAny_pure ⟨plainId_quiet PySem.F.plain_max_loop _, ih (j + 1) _ o' (some b) (by (first | lia | omega)) hlt T' Z hkw hR⟩
theorem max_args0 (a : Value) : argsOk "max" ⟨[a], []⟩ := by unfold argsOk; kernel_rfl
theorem max_argsD (a d : Value) : argsOk "max" ⟨[a], [(Str.ofString "default", d)]⟩ := by unfold argsOk; kernel_rfl
theorem max_argsDK (a d k : Value) : argsOk "max" ⟨[a], [(Str.ofString "default", d), (Str.ofString "key", k)]⟩ := by unfold argsOk; kernel_rfl
/-- max of ints, a key of None at most -/
theorem max_gen {x : Value} {kw : List (Str × Value)} {d : List Value} {B₀ : BM} {μ₀ : Led} {Q : Value → Shared → Prop} (X₀ : St R B₀ F μ₀ s) (ha : argsOk "max" ⟨[x], kw⟩)
    (hbp : ∃ ky dv, Builtin.Builtins.bindParams "max" ["key", "default"] 0 ⟨[], kw⟩ = pure [ky, dv] ∧ ky.getD .none = .none ∧ dv.toList = d)
    (h : wpAny (model prog w) A.in1 (pyIter x) (fun it s₂ => ∃ I n P o T B μ xs, it = .ref I ∧ IterAt T prog w A.in1 B I n P 0 s₂.heap ∧ St R B F ((I, ItP o) :: μ) s₂ ∧ n = xs.length ∧ (∀ i v, P i v → ∃ x, xs[i]? = some x ∧ IntV x v) ∧ (d = [] → xs ≠ []) ∧
      ∀ v s', St R B F μ s' → (match maxI xs with | some b => IntV b v | none => ∃ r, d = v :: r) → Q v s') E s) :
    wpAny (model prog w) A (call (.builtin "max") [x] kw) Q E s := by
  obtain ⟨ky, dv, hb, hk, rfl⟩ := hbp
  have hname : (toString "max" ++ toString ".loop" : String) = "max.loop" := by decide
  refine kmk_tree PySem.F.kind_max PySem.F.plain_max PySem.F.entry_max ha ?_
  show wpAny _ A.in1 (Builtin.Builtins.bindParams "max" ["key", "default"] 0 ⟨[], kw⟩ >>= _) _ _ s
  refine wpAny_bind (wpAny_of_eq hb ?_)
  refine wpAny_bind (wpAny_pure ?_)
  refine wpAny_bind (wpAny_mono h (fun it s₂ h₂ => ?_) fun _ _ e => e)
  obtain ⟨I, n, P, o, T, B, μ, xs, rfl, TT, X, hn, hP, hd, hQ⟩ := h₂
  refine wpAny_bind (wpAny_newObj_type ?_)
  rw [hname, hk]
  have Z := (X.new (tk := s₂.toks) (o := { cls := .type "list", data := .seq #[] }) (P := BestP none) ⟨_, rfl⟩).perm (.swap _ _ _)
  refine wpAny_pure ⟨plainId_quiet PySem.F.plain_max_loop _, max_loop hn hP _ 0 _ o none rfl (Nat.zero_le _) (TT.keep X Z) Z (fun hk => ?_) fun v s' X' hv => hQ v s' X' ?_⟩
  · refine bestO_some _ _ _ (.inr ?_)
    cases dv with
    | none => simpa using hd rfl
    | some d => simp at hk
  · rw [List.drop_zero] at hv
    unfold maxI
    split
    · rename_i b e; rw [e] at hv; exact hv
    · rename_i e; rw [e] at hv
      obtain ⟨k, r, e2⟩ := hv
      cases dv with
      | none => simp at e2
      | some d => simp at e2; exact ⟨[], by simp [e2.1]⟩

end
end text_LyJ
section text_LyK
set_option maxRecDepth 100000
set_option maxHeartbeats 1000000

/-- items that are plain data -/
structure DRel {α : Type} [DecidableEq α] (B : BM) (rel : α → Value → Prop) (toD : α → PyData) : Prop where
  rd : ∀ (h : Heap), (∀ b o, B b = some o → h.get? b = some o) → ∀ x v, rel x v → ∃ as, Reads h v (toD x) as
  lay : ∀ x, (toD x).canLay0 = true
  dep : ∀ x, (toD x).depth ≤ 1
  eqv : ∀ x y, PyData.eqv (toD x) (toD y) = decide (x = y)
noncomputable def optD : Option Int → PyData | none => .none | some n => .int n
noncomputable def pairD (x : Int × Int) : PyData := .tuple [.int x.1, .int x.2]
theorem dInt {B : BM} : DRel B IntV PyData.int :=
  ⟨fun h _ x v ⟨t, e⟩ => ⟨[], by subst e; exact .int x t⟩, fun x => by simp [PyData.canLay0], fun x => by simp [PyData.depth], fun x y => by simp only [PyData.eqv]; exact Bool.eq_iff_iff.mpr (by simp)⟩
theorem dBool {B : BM} : DRel B BoolV PyData.bool :=
  ⟨fun h _ x v e => ⟨[], by cases e; exact .bool x⟩, fun x => by simp [PyData.canLay0], fun x => by simp [PyData.depth], fun x y => by simp only [PyData.eqv]; exact Bool.eq_iff_iff.mpr (by simp)⟩
theorem dOpt {B : BM} : DRel B OptV optD := by
  refine ⟨fun h _ x v e => ?_, fun x => ?_, fun x => ?_, fun x y => ?_⟩
  · cases x with
    | none => exact ⟨[], by cases e; exact .none⟩
    | some n => obtain ⟨t, rfl⟩ := e; exact ⟨[], .int n t⟩
  · cases x <;> simp [optD, PyData.canLay0]
  · cases x <;> simp [optD, PyData.depth]
  · cases x <;> cases y <;> simp only [optD, PyData.eqv] <;> exact Bool.eq_iff_iff.mpr (by simp)
theorem dPair {B : BM} : DRel B (PairB B) pairD := by
  refine ⟨fun h hk x v e => ?_, fun x => ?_, fun x => ?_, fun x y => ?_⟩
  · obtain ⟨a, t, u, n, rfl, q⟩ := e
    exact ⟨_, .tuple (hk _ _ q) rfl rfl (.cons (.int _ _) (.cons (.int _ _) .nil))⟩
  · simp [pairD, PyData.canLay0, PyData.canLayAll0]
  · simp [pairD, PyData.depth, PyData.depthAll]
  · obtain ⟨a, b⟩ := x; obtain ⟨c, d⟩ := y
    simp only [pairD, PyData.eqv, PyData.eqvAll]
    exact Bool.eq_iff_iff.mpr (by simp)

section
variable {α : Type} [DecidableEq α] {rel : α → Value → Prop} {toD : α → PyData} {B : BM}
theorem DRel.all (D : DRel B rel toD) {h : Heap} (hk : ∀ b o, B b = some o → h.get? b = some o) {xs : List α} {vs : List Value} (r : All2 rel xs vs) : ∃ as, ReadsAll h vs (xs.map toD) as := by
  induction r with
  | nil => exact ⟨_, .nil⟩
  | cons h1 _ ih =>
    obtain ⟨a, ha⟩ := D.rd h hk _ _ h1
    obtain ⟨b, hb⟩ := ih
    exact ⟨_, .cons ha hb⟩
theorem DRel.layAll (D : DRel B rel toD) : ∀ xs : List α, PyData.canLayAll0 (xs.map toD) = true
  | [] => by simp [PyData.canLayAll0]
  | x :: xs => by simp only [List.map_cons, PyData.canLayAll0, D.lay, D.layAll xs, Bool.and_self]
theorem DRel.depAll (D : DRel B rel toD) : ∀ xs : List α, PyData.depthAll (xs.map toD) ≤ 1
  | [] => by simp [PyData.depthAll]
  | x :: xs => by
    have h1 := D.dep x
    have h2 := D.depAll xs
    simp only [List.map_cons, PyData.depthAll]; (first | lia | omega)
theorem DRel.eqvAll (D : DRel B rel toD) : ∀ xs ys : List α, PyData.eqvAll (xs.map toD) (ys.map toD) = decide (xs = ys)
  | [], [] => by simp [PyData.eqvAll]
  | [], _ :: _ => by simp [PyData.eqvAll]
  | _ :: _, [] => by simp [PyData.eqvAll]
  | x :: xs, y :: ys => by
    simp only [List.map_cons, PyData.eqvAll, D.eqv, D.eqvAll xs ys]
    exact Bool.eq_iff_iff.mpr (by simp)
theorem DRel.any (D : DRel B rel toD) (x : α) : ∀ xs : List α, ((xs.map toD).any fun y => PyData.eqv y (toD x)) = decide (x ∈ xs)
  | [] => by simp
  | y :: xs => by
    simp only [List.map_cons, List.any_cons, D.eqv, D.any x xs]
    refine Bool.eq_iff_iff.mpr ?_
    rw [Bool.or_eq_true, decide_eq_true_iff, decide_eq_true_iff, decide_eq_true_iff, List.mem_cons]
    exact or_congr_left ⟨Eq.symm, Eq.symm⟩
variable {prog : Program} {w : World} {A : Around} {E : Value → Shared → Prop} {s : Shared} {R : Shared} {F : List (Addr × NM)} {μ : Led} {xs ys : List α} {a b : Addr} {x : α} {v : Value} {n : Nat} {Q : Value → Shared → Prop}
theorem DRel.readsL (D : DRel B rel toD) (X : St R B F μ s) (hl : LAt B μ a rel xs) : ∃ as, Reads s.heap (.ref a) (.list (xs.map toD)) as := by
  obtain ⟨vs, k, r, e⟩ := X.lst hl
  obtain ⟨as, h⟩ := D.all X.keep r
  exact ⟨_, .list e rfl rfl (by simpa using h)⟩
theorem eq_x (D : DRel B rel toD) (hA : Cx A (n + 1)) (X : St R B F μ s) (ha : LAt B μ a rel xs) (hb : LAt B μ b rel ys) (h : Q (.bool (decide (xs = ys))) s) : wpAny (model prog w) A (compareOp .Eq (.ref a) (.ref b)) Q E s := by
  obtain ⟨as, ra⟩ := D.readsL X ha
  obtain ⟨bs, rb⟩ := D.readsL X hb
  have h1 := D.depAll xs
  have h2 := hA.units
  refine SeqAt.compareEq_reads ra rb (by simp only [PyData.canLay0]; exact D.layAll xs) (by simp only [PyData.canLay0]; exact D.layAll ys) (by simp only [PyData.depth]; (first | lia | omega)) ?_
  simp only [PyData.eqv, D.eqvAll]; exact h
theorem ne_x (D : DRel B rel toD) (hA : Cx A (n + 1)) (X : St R B F μ s) (ha : LAt B μ a rel xs) (hb : LAt B μ b rel ys) (h : Q (.bool (!decide (xs = ys))) s) : wpAny (model prog w) A (compareOp .NotEq (.ref a) (.ref b)) Q E s := by
  obtain ⟨as, ra⟩ := D.readsL X ha
  obtain ⟨bs, rb⟩ := D.readsL X hb
  have h1 := D.depAll xs
  have h2 := hA.units
  refine SeqAt.compareNe_reads ra rb (by simp only [PyData.canLay0]; exact D.layAll xs) (by simp only [PyData.canLay0]; exact D.layAll ys) (by simp only [PyData.depth]; (first | lia | omega)) ?_
  simp only [PyData.eqv, D.eqvAll]; exact h
theorem in_x (D : DRel B rel toD) (hA : Cx A (n + 1)) (X : St R B F μ s) (ha : LAt B μ a rel xs) (hv : rel x v) (h : Q (.bool (decide (x ∈ xs))) s) : wpAny (model prog w) A (compareOp .In v (.ref a)) Q E s := by
  obtain ⟨as, ra⟩ := D.readsL X ha
  obtain ⟨bs, rb⟩ := D.rd _ X.keep _ _ hv
  have h1 := D.depAll xs
  have h2 := hA.units
  refine SeqAt.in_list_reads ra rb (D.layAll xs) (D.lay x) (by (first | lia | omega)) ?_
  rw [D.any]; exact h
theorem notIn_x (D : DRel B rel toD) (hA : Cx A (n + 1)) (X : St R B F μ s) (ha : LAt B μ a rel xs) (hv : rel x v) (h : Q (.bool (!decide (x ∈ xs))) s) : wpAny (model prog w) A (compareOp .NotIn v (.ref a)) Q E s := by
  obtain ⟨as, ra⟩ := D.readsL X ha
  obtain ⟨bs, rb⟩ := D.rd _ X.keep _ _ hv
  have h1 := D.depAll xs
  have h2 := hA.units
  refine SeqAt.notIn_list_reads ra rb (D.layAll xs) (D.lay x) (by (first | lia | omega)) ?_
  rw [D.any]; exact h
end
theorem mid_v {α : Type} {M : Model} {A : Around} {E : Value → Shared → Prop} {s : Shared} {R : Shared} {B : BM} {F : List (Addr × NM)} {μ : Led} {p : Sem α} {Q : α → Shared → Prop} (X : St R B F μ s) (b : α)
    (h : wpAny M A p (fun v s' => v = b ∧ St R B F μ s') E s) (k : ∀ s', St R B F μ s' → Q b s') : wpAny M A p Q E s :=
  wpAny_mono h (fun v s' ⟨e, X'⟩ => e ▸ k s' X') fun _ _ e => e
theorem CallKw_ {M : Model} {A : Around} {E : Value → Shared → Prop} {s : Shared} {env : Env} {func : Expr} {args : List Expr} {kws : List Keyword} {pos : Pos} {Q : Value → Shared → Prop}
    (h : wpAny M A (eval func env) (fun f s₁ => wpAny M A (callWith pos f [] (backTo pos (starEach args env)) (backToKw pos (keywordEach kws env))) Q E s₁) E s)
    (he : eval (.Call func args kws pos) env = (do callWith pos (← eval func env) [] (backTo pos (starEach args env)) (backToKw pos (keywordEach kws env))) := by rfl) :
    wpAny M A (eval (.Call func args kws pos) env) Q E s := by
  rw [he]; exact wpAny_bind h
end text_LyK
section text_LyL
set_option maxRecDepth 100000
set_option maxHeartbeats 1000000

/-- an object that is a plain namespace -/
noncomputable def NsO (k : Nat) (m : NM) : Obj → Prop := fun o => ∃ es ep, o.data = .dict es ep ∧ StrKeys es ∧ es.size ≤ k ∧ ∀ name, nsFind es name = m name
theorem NsO.look {k : Nat} {m : NM} {o : Obj} {name : Str} (h : NsO k m o) : lookIn name o = some (m name) := by
  obtain ⟨es, ep, hd, hk, _, hm⟩ := h
  have hn := hm name
  unfold nsFind findBy at hn
  unfold lookIn
  rw [hd]
  dsimp only
  rw [Array.find?_toList]
  cases hf : es.find? (fun e => e.key.isStr name) with
  | some e => rw [hf] at hn; simp only [Option.map_some] at hn; rw [← hn]
  | none =>
    rw [hf] at hn
    have : (es.toList.any (·.refKey)) = false := by
      rw [List.any_eq_false]; intro e he; obtain ⟨n, t, h⟩ := hk e (Array.mem_toList_iff.mp he); simp [DictEntry.refKey, h]
    rw [this, ← hn]; rfl
theorem NsO.put {k : Nat} {m : NM} {o : Obj} {name : Str} {hs : Int} {t : Tok} {v : Value} (h : NsO k m o) : NsO (if (m name).isSome then k else k + 1) (put m name v) (Obj.putName name hs (.str name t) v o) := by
  obtain ⟨es, ep, hd, hk, hz, hm⟩ := h
  obtain ⟨c, d, dt, sl⟩ := o
  dsimp only at hd
  subst hd
  have hn := hm name
  rw [Obj.putName_eq]
  unfold Obj.putNameByArray
  dsimp only
  cases hi : es.findIdx? (fun e => e.key.isStr name) with
  | some i =>
    have hsome : (m name).isSome = true := by
      rw [← hn]; unfold nsFind findBy
      rw [Option.isSome_map, Array.find?_isSome]
      obtain ⟨h1, h2, _⟩ := Array.findIdx?_eq_some_iff_getElem.mp hi
      exact ⟨es[i], Array.getElem_mem h1, h2⟩
    rw [if_pos hsome]
    refine ⟨_, _, rfl, hk.modify _ _, by simpa using hz, fun x => ?_⟩
    rw [show nsFind _ x = _ from findBy_modify (fun n v => v.isStr n) Value.isStr_inj es name x v i hi]
    show (if x = name then some v else nsFind es x) = Mine.put m name v x
    unfold Mine.put; rw [hm]
  | none =>
    have hnone : (m name).isSome = false := by
      rw [← hn]; unfold nsFind findBy
      rw [Option.isSome_map]
      rw [Array.findIdx?_eq_none_iff] at hi
      have : es.find? (fun e => e.key.isStr name) = none := by
        rw [Array.find?_eq_none]; intro e he; simpa using hi e he
      rw [this]; rfl
    rw [if_neg (by rw [hnone]; decide)]
    refine ⟨_, _, rfl, hk.push _ _ _ _, by simpa using hz, fun x => ?_⟩
    rw [show nsFind _ x = _ from findBy_push (fun n v => v.isStr n) es name x _ _ v (fun y => by
      show (name == y) = decide (y = name)
      by_cases h : y = name
      · subst h; simp
      · have : ¬ name = y := fun e => h e.symm
        simp [h, this]) hi]
    show (if x = name then some v else nsFind es x) = Mine.put m name v x
    unfold Mine.put; rw [hm]

section
variable {prog : Program} {w : World} {A : Around} {E : Value → Shared → Prop} {s : Shared} {env : Env} {R : Shared} {B B' : BM} {F : List (Addr × NM)} {μ μ' : Led} {L I : Addr} {m : NM} {K : Frag}
  {x C dx : Addr} {name : Str} {v : Value} {k k' : Nat}

theorem getattr_d {expr : Bool} {cd : ClassData} {Q : Value → Shared → Prop} (hB : Base K B) (X : St R B F μ s) (hx : B x = some (instObj C dx)) (hd : (dx, NsO k m) ∈ μ) (hv : m name = some v)
    (hf : findIn K (.ref C) name = some none) (hga : findIn K (.ref C) "__getattribute__" = some (some (.builtin "object.__getattribute__"))) (hc : clsIn K C = some cd) (hh : cd.hasDict = true)
    (hv' : handedIn v = true) (h : ∀ s', St R B F μ s' → Q v s') : wpAny (model prog w) A (getAttr (.ref x) name expr) Q E s := by
  obtain ⟨od, hod, hN⟩ := X.get hd
  have I : InstAt s.heap x (instObj C dx) C (some od) := ⟨X.keep _ _ hx, rfl, rfl, hod⟩
  refine get_value (hB.inH X) I hga ?_ hv' (h _ (X.toks _))
  unfold findObj
  rw [hc, Option.bind_some, hf, Option.bind_some]
  show (W.ownOf cd (some od) name).bind _ = _
  unfold W.ownOf
  rw [hh, if_pos rfl]
  show (lookIn name od).bind _ = _
  rw [hN.look, hv]
  rfl

theorem setattr_d {Q : Unit → Shared → Prop} (hB : Base K B) (X : St R B F μ s) (hx : B x = some (instObj C dx)) (U : Set1 dx (NsO k m) (NsO k' (put m name v)) μ μ')
    (hk : k' = if (m name).isSome then k else k + 1) (hz : k ≤ 900)
    (hs : findIn K (.ref C) "__setattr__" = some (some (.builtin "object.__setattr__"))) (hp : plainOver K C = true) (ht : takerIn K C name = some none) (hh : (clsIn K C).any (·.hasDict) = true)
    (h : ∀ s', St R B F μ' s' → Q () s') : wpAny (model prog w) A (setAttr (.ref x) name v) Q E s := by
  obtain ⟨od, hod, hN⟩ := X.get U.mem
  have KX := hB.inH X
  have I : InstAt s.heap x (instObj C dx) C (some od) := ⟨X.keep _ _ hx, rfl, rfl, hod⟩
  refine set_plain KX I hs (osa_open (s := { s with toks := s.toks + 1 }) KX I hp ht fun b => ?_)
  obtain ⟨cd, hc, hd'⟩ := any_some hh
  refine wpAny_bind (wpAny_pure (wpAny_bind (wpAny_bind (wpAny_loadPart I.at_ (wpAny_bind ((looks_clsIn (M := model prog w) KX hc) _ _ _ _ (fun _ _ e => e) ?_))))))
  rw [hd']
  refine wpAny_pure (a := some dx) (wpAny_bind (wpAny_pure (wpAny_bind ?_)))
  unfold nsSet
  refine wpAny_bind (wpAny_bind (wpAny_askSetting (wpAny_pure (wpAny_bind (wpAny_mkText (wpAny_bind (wpAny_loadPart hod ?_)))))))
  have hN' := hN
  obtain ⟨es, ep, hd, hkk, hzz, hm⟩ := hN
  rw [hd]
  dsimp only
  have hr : es.any (·.refKey) = false := by
    rw [Array.any_eq_false']; intro e he; obtain ⟨n, t, h⟩ := hkk e he; simp [DictEntry.refKey, h]
  rw [aRefKeyMayBeTheName_at, hr, Bool.and_false]
  refine wpAny_updatePart hod ?_
  have hP := NsO.put (name := name) (hs := PyData.keyHash w.params name) (t := s.toks + 1) (v := v) hN'
  rw [← hk] at hP
  have hP' := hP
  obtain ⟨es', ep', hd2, hk2, hz2, hm2⟩ := hP
  have hg := Heap.get?_update_self (Obj.putName name (PyData.keyHash w.params name) (.str name (s.toks + 1)) v) hod (Obj.isFreed_of_dict hd2)
  refine wpAny_bind (wpAny_lookBehind hg (by rw [hd2]; exact pastItsLine_dict (by rw [sizeLine_eq]; split at hk <;> (first | lia | omega))) ?_)
  exact wpAny_pure (h _ (X.set1 (tk := s.toks + 1 + 1) U (Heap.SameBut.update ..) ⟨_, hg, hP'⟩))
end
end text_LyL
section text_LyM
set_option maxRecDepth 100000
set_option maxHeartbeats 1000000

/-- an object with slots -/
noncomputable def SlP (C dn : Addr) (vs : List (Option Value)) : Obj → Prop := fun o => o = ⟨.ref C, some dn, .plain, vs.toArray⟩
noncomputable def setSl (vs : List (Option Value)) (i : Nat) (v : Value) : List (Option Value) := (vs ++ List.replicate (i + 1 - vs.length) none).set i (some v)

noncomputable def H0 : Heap := {}
noncomputable def allBut (h : Heap) (ex : List Addr) : List (Addr × Obj) := (List.range h.objs.size).filterMap fun a => if a ∈ ex then none else (h.get? a).map fun o => (a, o)
theorem mem_allBut {h : Heap} {ex : List Addr} {p : Addr × Obj} : p ∈ allBut h ex ↔ p.1 ∉ ex ∧ h.get? p.1 = some p.2 := by
  unfold allBut
  rw [List.mem_filterMap]
  constructor
  · rintro ⟨a, _, e⟩
    split at e
    · cases e
    · rename_i hn
      obtain ⟨o, ho, rfl⟩ := Option.map_eq_some_iff.mp e
      exact ⟨hn, ho⟩
  · rintro ⟨h1, h2⟩
    exact ⟨p.1, List.mem_range.mpr (Heap.lt_size h2), by rw [if_neg h1, h2]; rfl⟩
theorem H0_none (a : Addr) : H0.get? a = none := by simp [H0, Heap.get?]

section
variable {prog : Program} {w : World} {A : Around} {E : Value → Shared → Prop} {s : Shared} {env : Env} {R : Shared} {B B' : BM} {F : List (Addr × NM)} {μ μ' : Led} {L I : Addr} {m m' : NM} {K : Frag}
  {x C dx dn : Addr} {name : Str} {v : Value} {k k' : Nat} {P P' : Obj → Prop}

theorem St.re (X : St R B ((L, m) :: F) ((x, P) :: μ) s) {h' : Heap} {tk : Nat} (hn : h'.Ns L m') (hk : ∀ b o, b ≠ x → b ≠ L → s.heap.get? b = some o → h'.get? b = some o) (hp : ∃ o, h'.get? x = some o ∧ P' o) :
    St R B ((L, m') :: F) ((x, P') :: μ) { s with heap := h', toks := tk } := by
  have hb := X.mb (x, P) (.head _)
  have hL := X.fb (L, m) (.head _)
  have md := X.md
  have fd := X.fd
  have fmL := X.fm (L, m) (.head _)
  simp only [List.map_cons, List.nodup_cons] at md hb fd hL
  refine ⟨fun p q => ?_, fun p q => ?_, fun p q => ?_, X.fd, fun b o e => ?_, fun p q => ?_, fun p q => ?_, X.md, X.gens, X.os, X.drawn⟩
  · rcases List.mem_cons.mp q with rfl | q
    · exact hn
    · obtain ⟨o, es, ep, ho, r⟩ := X.fr p (.tail _ q)
      have h1 : p.1 ≠ x := fun e => X.fm p (.tail _ q) (e ▸ .head _)
      have h2 : p.1 ≠ L := fun e => fd.1 (e ▸ List.mem_map_of_mem q)
      exact ⟨o, es, ep, hk _ _ h1 h2 ho, r⟩
  · rcases List.mem_cons.mp q with rfl | q
    · exact hL
    · exact X.fb p (.tail _ q)
  · rcases List.mem_cons.mp q with rfl | q
    · exact fmL
    · exact X.fm p (.tail _ q)
  · have h1 : b ≠ x := fun q => by rw [q, hb] at e; cases e
    have h2 : b ≠ L := fun q => by rw [q, hL] at e; cases e
    exact hk _ _ h1 h2 (X.keep b o e)
  · rcases List.mem_cons.mp q with rfl | q
    · exact hp
    · obtain ⟨o, ho, z⟩ := X.led p (.tail _ q)
      have h1 : p.1 ≠ x := fun e => md.1 (e ▸ List.mem_map_of_mem q)
      have h2 : p.1 ≠ L := fun e => fmL (List.mem_cons_of_mem _ (by rw [← e]; exact List.mem_map_of_mem (f := (·.1)) q))
      exact ⟨o, hk _ _ h1 h2 ho, z⟩
  · rcases List.mem_cons.mp q with rfl | q
    · exact hb
    · exact X.mb p (.tail _ q)
theorem St.fr0 (X : St R B ((L, m) :: F) μ s) : Fr H0 L s.heap m := ⟨X.fr (L, m) (.head _), fun b o e => (by rw [H0_none] at e; cases e), Nat.zero_le _⟩
theorem St.news0 (X : St R B ((L, m) :: F) ((x, P) :: μ) s) {ox : Obj} (ho : s.heap.get? x = some ox) : News H0 L s.heap ((x, ox) :: allBut s.heap [L, x]) := by
  intro p hp
  have fmL := X.fm (L, m) (.head _)
  rcases List.mem_cons.mp hp with rfl | q
  · exact ⟨ho, fun e => fmL (by rw [← e]; exact .head _), H0_none _⟩
  · obtain ⟨h1, h2⟩ := mem_allBut.mp q
    simp only [List.mem_cons, not_or] at h1
    exact ⟨h2, h1.1, H0_none _⟩
theorem St.back (X : St R B ((L, m) :: F) ((x, P) :: μ) s) {h' : Heap} {tk : Nat} {ox' : Obj} (F' : Fr H0 L h' m') (N' : News H0 L h' ((x, ox') :: allBut s.heap [L, x])) (hP : P' ox') :
    St R B ((L, m') :: F) ((x, P') :: μ) { s with heap := h', toks := tk } := by
  refine X.re F'.ns (fun b o h1 h2 e => (N' (b, o) (.tail _ (mem_allBut.mpr ⟨?_, e⟩))).1) ⟨ox', (N' _ (.head _)).1, hP⟩
  simp only [List.mem_cons, not_or]
  exact ⟨h2, h1, by simp⟩

theorem slotget {expr : Bool} {p i : Nat} {vs : List (Option Value)} {od : Obj} {Q : Value → Shared → Prop} (hB : Base K B) (X : St R B F μ s) (hx : (x, SlP C dn vs) ∈ μ) (hdn : B dn = some od)
    (hf : findObj K C (some od) name = some (.bind (.builtin "member_descriptor.__get__") (.ref p))) (hga : findIn K (.ref C) "__getattribute__" = some (some (.builtin "object.__getattribute__")))
    (hk : findIn K (.ref C) "__getattr__" = some none) (hp : slotIn K p C = some i) (hv : (vs[i]?).join = some v) (hv' : handedIn v = true) (h : ∀ s', St R B F μ s' → Q v s') :
    wpAny (model prog w) A (getAttr (.ref x) name expr) Q E s := by
  obtain ⟨ox, hox, rfl⟩ := X.get hx
  have I : InstAt s.heap x ⟨.ref C, some dn, .plain, vs.toArray⟩ C (some od) := ⟨hox, rfl, rfl, X.keep _ _ hdn⟩
  have KX := hB.inH X
  refine get_bind KX I hga hf hk (wpAny_call (slot_get (s := { s with toks := s.toks + 1 }) KX I hp (by simpa using hv) ?_))
  show wpAny _ _ (handedOut v) _ _ _
  rw [handedOut_of hv']
  exact wpAny_pure (h _ (X.toks _))

theorem slotset {p i : Nat} {vs vs' : List (Option Value)} {od : Obj} {Q : Unit → Shared → Prop} (hB : Base K B) (X : St R B ((L, m) :: F) μ s) (hdn : B dn = some od)
    (U : Set1 x (SlP C dn vs) (SlP C dn vs') μ μ') (hvs : setSl vs i v = vs')
    (hs : findIn K (.ref C) "__setattr__" = some (some (.builtin "object.__setattr__"))) (hpo : plainOver K C = true) (ht : takerIn K C name = some (some (.ref p)))
    (hT : typeIn K (.ref p) = some (.type "member_descriptor")) (hp : slotIn K p C = some i) (hi : i < 1000) (h : ∀ s', St R B ((L, m) :: F) μ' s' → Q () s') :
    wpAny (model prog w) A (setAttr (.ref x) name v) Q E s := by
  obtain ⟨ν, p1, p2⟩ := U.front
  have X := X.perm p1
  obtain ⟨ox, hox, rfl⟩ := X.get (.head _)
  have KX := hB.inH X
  have I : InstAt s.heap x ⟨.ref C, some dn, .plain, vs.toArray⟩ C (some od) := ⟨hox, rfl, rfl, X.keep _ _ hdn⟩
  refine set_plain KX I hs (osa_descr (s := { s with toks := s.toks + 1 }) KF.slot_mset KX I hpo ht hT ?_)
  have N := X.news0 hox
  refine slot_set (s := { s with toks := s.toks + 1 }) (ox' := ⟨.ref C, some dn, .plain, vs'.toArray⟩) (pre := []) (post := allBut s.heap [L, x]) X.fr0 N KX I hp hi (fun _ q => nomatch q) (fun q hq e => ?_) ?_ rfl (fun h' F' N' => ?_)
  · have := (mem_allBut.mp hq).1
    rw [e] at this; simp at this
  · rw [← hvs]; unfold setSl
    rw [← List.setIfInBounds_toArray, ← List.append_toArray, List.size_toArray, ← List.toArray_replicate]
  · exact h _ ((X.back (tk := s.toks + 1) (P' := SlP C dn vs') F' N' rfl).perm p2.symm)

theorem method_x {f : Addr} {pl : Sem Bool} {Q : Value × List Value → Shared → Prop} (hB : Base K B) (X : St R B F μ s) (hx : B x = some (instObj C dx)) (hd : (dx, NsO k m) ∈ μ) (hn : m name = none)
    (hga : findIn K (.ref C) "__getattribute__" = some (some (.builtin "object.__getattribute__"))) (hk : findIn K (.ref C) "__getattr__" = some none)
    (hf : findIn K (.ref C) name = some (some (.ref f))) (ht : typeIn K (.ref f) = some (.type "function")) (h : Q (.ref f, [.ref x]) s) : wpAny (model prog w) A (getMethod (.ref x) name pl) Q E s := by
  obtain ⟨od, hod, hN⟩ := X.get hd
  have I : InstAt s.heap x (instObj C dx) C (some od) := ⟨X.keep _ _ hx, rfl, rfl, hod⟩
  refine method_fn (hB.inH X) I hga hk hf ht ?_ h
  unfold shadowIn
  dsimp only
  rw [hN.look, hn]; rfl

theorem Cx.typeCall {n : Nat} {args : Args} (hA : Cx A (n + 1)) : Cx (A.under (.builtin "type.__call__" args)) n := by
  have h1 : (Code.builtin "type.__call__" args).weight ≤ 1 := (by intro b; cases b <;> decide : ∀ b : Bool, 0 + (if b = true then 1 else 0) + 0 + 0 ≤ 1) (Code.isCreation _)
  have h2 : (Code.builtin "type.__call__" args).cUnits ≤ 8 := Nat.le_of_ble_eq_true rfl
  refine ⟨hA.handled, ?_, ?_⟩
  · have := hA.depth; show A.depth + _ + n < _; (first | lia | omega)
  · have := hA.units; show A.units + _ + 8 * n < _; (first | lia | omega)

theorem make_x {rest : List Value} {kw : List (Str × Value)} {fI : Addr} {n : Nat} {Q : Value → Shared → Prop} (hB : Base K B) (hA : Cx A (n + 1)) (X : St R B F μ s) (hm : makesIn K C = true)
    (hi : findIn K (.ref C) "__init__" = some (some (.ref fI))) (hf : typeIn K (.ref fI) = some (.type "function"))
    (h : ∀ x dx A' s', Cx A' n → St R B F ((x, ItP (instObj C dx)) :: (dx, ItP emptyDict) :: μ) s' →
      codeAny (model prog w) A' (.call (.ref fI) ⟨.ref x :: rest, kw⟩) (fun r s'' => match r with | .ok (.ret v) => v = .none ∧ Q (.ref x) s'' | .ok _ => False | .error e => E e s'') s') :
    wpAny (model prog w) A (call (.ref C) rest kw) Q E s := by
  have KX := hB.inH X
  have X1 := (X.new (tk := s.toks) (o := emptyDict) (P := ItP emptyDict) rfl)
  have X2 := (X1.new (tk := s.toks) (o := instObj C s.heap.objs.size) (P := ItP (instObj C s.heap.objs.size)) rfl)
  have e1 : ({ s with heap := s.heap.push emptyDict, toks := s.toks } : Shared).heap.objs.size = s.heap.objs.size + 1 := Heap.size_push ..
  rw [e1] at X2
  obtain ⟨hh, g, d, t, os⟩ := s
  refine wpAny_call (make_core (makes_of KX hm) (looks_findIn KX hi) (fun self => bind_fn KX self hf) (.inl rfl) ?_)
  refine codeAny_mono (h _ _ _ _ hA.typeCall X2) fun r s' z => ?_
  rcases r with e | (v | _ | _ | _) <;> first | exact z | exact z.elim
end
end text_LyM
section text_LyN
set_option maxRecDepth 100000
set_option maxHeartbeats 1000000

section
variable {prog : Program} {w : World} {A : Around} {E : Value → Shared → Prop} {s : Shared} {env : Env} {R : Shared} {B B' : BM} {F : List (Addr × NM)} {μ μ' : Led} {L I : Addr} {m m' : NM} {K : Frag}
  {x C dx dn : Addr} {n : Nat} {Rr : Result → Shared → Prop}
  {name qual : Str} {params : Arguments} {body : List Stmt} {scope : Scope} {dV kV doc pm cdv ct oc : Value} {an od : Option Addr} {osl : Array (Option Value)} {f : Addr} {pos : List Value} {kw : List (Str × Value)} {binds : List (Str × Value)}

/-- a call, as code -/
theorem code_fn (hB : Base K B) (hA : Cx A (n + 1)) (X : St R B F μ s)
    (ho : K.lookup f = some ⟨oc, od, .func (fnOf name qual params body scope dV kV doc pm an cdv ct), osl⟩) (hcd : codeIn K cdv qual = true)
    (hbind : BindsTo s (fnOf name qual params body scope dV kV doc pm an cdv ct) ⟨pos, kw⟩ binds) (hloc : ∀ y ∈ binds, scope.names.lookup y.1 = some .local)
    (h : ∀ L A' s₁, Cx A' n → A'.frames = A.frames.map (envOf qual scope L f cdv :: ·) → St R B ((L, fun y => binds.reverse.lookup y) :: F) μ s₁ →
      ∀ En : Value → Shared → Prop, wpAny (model prog w) A' (execs body (envOf qual scope L f cdv)) (fun fl s' => Rr (.ok (.ret (retV fl))) s') En s₁)
    (hco : scope.isCoroutine = false := by rfl) (hgen : scope.isGenerator = false := by rfl) (hk : scope.kind = .function := by rfl) (hcell : ∀ x ∈ scope.names, x.2 ≠ .cell := by decide) :
    codeAny (model prog w) A (.call (.ref f) ⟨pos, kw⟩) Rr s := by
  obtain ⟨H, p, l, me, mg, mb, a, b, c⟩ := hB.top
  have hk' : ∀ y o, H.get? y = some o → s.heap.get? y = some o := fun y o e => X.keep y o (a y o e)
  have KX : K.In s.heap := fun y o e => hk' _ _ (b y o e)
  refine codeAny_call_def (fd := fnOf name qual params body scope dV kV doc pm an cdv ct) (body := body) (binds := binds) hA.room (KX _ _ ho) rfl (c.nolimit.keeps hk') (codeRec_of KX hcd) rfl hbind hcell hloc (fun h₁ hns hk₁ => ?_) hco hgen hk
  exact h _ _ _ (hA.deeper _) rfl (X.enter hns hk₁) _

/-- a call of a def with a star parameter -/
theorem code_fnV {vs : List Value} {front : List (Str × Value)} {nr : Str} {Q : Value → Shared → Prop} (hB : Base K B) (hA : Cx A (n + 1)) (X : St R B F μ s)
    (ho : K.lookup f = some ⟨oc, od, .func (fnOf name qual params body scope dV kV doc pm an cdv ct), osl⟩) (hcd : codeIn K cdv qual = true)
    (hbind : bindArgs (fnOf name qual params body scope dV kV doc pm an cdv ct) ⟨pos, kw⟩ = newTuple vs >>= fun v => pure (front ++ [(nr, v)])) (hz : vs.length ≤ 1000)
    (hloc : ∀ v, ∀ y ∈ front ++ [(nr, v)], scope.names.lookup y.1 = some .local)
    (h : ∀ L A' B' a s₁, Cx A' n → A'.frames = A.frames.map (envOf qual scope L f cdv :: ·) → Sub B B' → Base K B' → TupB B' a vs → St R B' ((L, fun y => (front ++ [(nr, Value.ref a)]).reverse.lookup y) :: F) μ s₁ →
      wpAny (model prog w) A' (execs body (envOf qual scope L f cdv)) (fun fl s' => Q (match fl with | .ret v => v | _ => .none) s')
        (fun e s' => wpAny (model prog w) A' (leaving (envOf qual scope L f cdv) e) (fun _ s'' => E e s'') (fun e' s'' => E e' s'') s') s₁)
    (hco : scope.isCoroutine = false := by rfl) (hgen : scope.isGenerator = false := by rfl) (hk : scope.kind = .function := by rfl) (hcell : ∀ x ∈ scope.names, x.2 ≠ .cell := by decide) :
    wpAny (model prog w) A (call (.ref f) pos kw) Q E s := by
  obtain ⟨H, p, l, me, mg, mb, a, b, c⟩ := id hB.top
  have hk' : ∀ y o, H.get? y = some o → s.heap.get? y = some o := fun y o e => X.keep y o (a y o e)
  have KX : K.In s.heap := fun y o e => hk' _ _ (b y o e)
  refine wpAny_call (codeAny_call_function (fd := fnOf name qual params body scope dV kV doc pm an cdv ct) (body := body) hA.room (KX _ _ ho) rfl hco hgen rfl (codeRec_of KX hcd) ?_)
  rw [hbind]
  refine wpAny_bind (newTup_ (P := IsT vs) X (fun n => ⟨n, rfl⟩) hz fun ta s₁ X₁ => wpAny_pure ?_)
  obtain ⟨B', hs, ⟨o, ho', k0, rfl⟩, _, X₁⟩ := X₁.freeze
  have hk₁ : ∀ y o, H.get? y = some o → s₁.heap.get? y = some o := fun y o e => X₁.keep y o (hs _ _ (a y o e))
  refine wpAny_newFunctionEnv hcell (hloc _) (fun h₀ hns₀ hsb₀ => ⟨(c.nolimit.keeps hk₁).fresh _ hsb₀, codeAny_func ?_⟩) hk
  exact h _ _ _ _ _ (hA.deeper _) rfl hs (hB.sub hs) ⟨k0, ho'⟩ (X₁.enter hns₀ fun b o e => hsb₀.extBut b o (Nat.ne_of_lt (Heap.lt_size e)) (Heap.get?_push_of_some _ e))

/-- the star of a frozen list or tuple -/
theorem star_x {a : Addr} {vs : List Value} {c : Nat} {T : String} {Q : List Value → Shared → Prop} (X : St R B F μ s) (ha : s.heap.get? a = some { cls := .type T, data := .seq vs.toArray c }) (hT : T = "list" ∨ T = "tuple") (hz : vs.length ≤ 1000)
    (h : ∀ s', St R B F μ s' → Q vs s') : StarOf (model prog w) A E (.ref a) Q s := by
  have z : wpAny (model prog w) A (collect (.ref a)) Q E s := by
    refine wpAny_collect_seq a hT ha rfl rfl (fun h' hk => ?_) (by rw [List.size_toArray, sizeLine_eq]; (first | lia | omega))
    exact h _ (X.grow (tk := s.toks) hk)
  have hT' : s.TypeIs (.ref a) T := ⟨_, ha, rfl⟩
  unfold StarOf notIterableAtAll
  rcases hT with rfl | rfl
  · exact wpAny_bind (wpAny_specialOf hT' PySem.F.slot_list_iter.lookup (wpAny_pure ⟨rfl, z⟩))
  · exact wpAny_bind (wpAny_specialOf hT' PySem.F.slot_tuple_iter.lookup (wpAny_pure ⟨rfl, z⟩))
end
end text_LyN
section text_LyO
set_option maxRecDepth 100000
set_option maxHeartbeats 1000000

noncomputable def DI (prog : Program) (w : World) (d : Addr) (kvs : List (Int × Value)) : Obj → Prop := fun o => (d == sysModules) = false ∧ o.IsDictOf (intKind prog w) kvs
noncomputable def SI (prog : Program) (w : World) (S : Int → Bool) (n : Nat) : Obj → Prop := fun o => o.SetObjOf (intKind prog w) S n
noncomputable def OAt (B : BM) (μ : Led) (a : Addr) (P : Obj → Prop) : Prop := (∃ o, B a = some o ∧ P o) ∨ (a, P) ∈ μ

theorem isInt_v {prog : Program} {w : World} {k : Int} {v : Value} (h : (intKind prog w).is k v = true) : IntV k v := by
  have h : Value.isInt k v = true := h
  cases v <;> simp [Value.isInt] at h
  rename_i i _
  exact ⟨i, by rw [h]⟩

section
variable {prog : Program} {w : World} {A : Around} {E : Value → Shared → Prop} {s : Shared} {env : Env} {R : Shared} {B B' : BM} {F : List (Addr × NM)} {μ μ' : Led} {L I d : Addr} {m m' : NM} {K : Frag}
  {kvs : List (Int × Value)} {k : Int} {t : Tok} {v : Value} {P : Obj → Prop}

theorem St.oat {a : Addr} (X : St R B F μ s) (h : OAt B μ a P) : ∃ o, s.heap.get? a = some o ∧ P o := by
  rcases h with ⟨o, e, p⟩ | h
  · exact ⟨o, X.keep _ _ e, p⟩
  · exact X.get h
theorem Base.notMods (hB : Base K B) (X : St R B F μ s) : (s.heap.objs.size == sysModules) = false := by
  obtain ⟨H, p, l, me, mg, mb, a, b, c⟩ := hB.top
  have hk' : ∀ y o, H.get? y = some o → s.heap.get? y = some o := fun y o e => X.keep y o (a y o e)
  have := modules_low (c.nolimit.keeps hk')
  exact beq_eq_false_iff_ne.mpr (Nat.ne_of_gt this)

theorem newDict_x {pos : Pos} {Q : Value → Shared → Prop} (hB : Base K B) (X : St R B F μ s) (h : ∀ d s', St R B F ((d, DI prog w d []) :: μ) s' → Q (.ref d) s') : wpAny (model prog w) A (eval (.Dict [] [] pos) env) Q E s := by
  refine wpAny_Dict_empty (h _ _ (X.new (tk := s.toks) ⟨hB.notMods X, ?_⟩))
  exact ⟨#[], 0, ⟨rfl, rfl, rfl⟩, rfl, fun e he => by simp at he, .nil, .nil⟩

theorem dget_m {pl : Sem Bool} {Q : Value × List Value → Shared → Prop} (X : St R B F μ s) (hd : OAt B μ d (DI prog w d kvs)) (h : Q (.builtin "dict.get", [.ref d]) s) : wpAny (model prog w) A (getMethod (.ref d) "get" pl) Q E s := by
  obtain ⟨o, ho, _, hi⟩ := X.oat hd
  have hD := Heap.dictOf_iff.mpr ⟨o, ho, hi⟩
  exact getMethod_builtin hD.typeIs PySem.F.plainAttrs_dict PySem.F.slot_dict_get PySem.F.type_dict_get hD.mapOf.noDict h
theorem dget_x {Q : Value → Shared → Prop} (X : St R B F μ s) (hd : OAt B μ d (DI prog w d kvs)) (h : ∀ s', St R B F μ s' → Q ((valueAt kvs k).getD .none) s') :
    wpAny (model prog w) A (call (.builtin "dict.get") [.ref d, .int k t]) Q E s := by
  obtain ⟨o, ho, lo, hi⟩ := X.oat hd
  have hD := Heap.dictOf_iff.mpr ⟨o, ho, hi⟩
  exact call_meetsIn PySem.F.slot_dict_get hD.typeIs PySem.F.entry_dict_get (PySem.F.args_dict_get_2 _ _) (meets_dict_get (intKind prog w) d (intKind_is prog w k t) lo) ⟨_, hD.mapOf, h _ (X.toks _)⟩
theorem ditem_x {value slice : Expr} {Q : Value → Shared → Prop} (X : St R B F μ s) (hd : OAt B μ d (DI prog w d kvs)) (hv : valueAt kvs k = some v) (h : ∀ s', St R B F μ s' → Q v s')
    (hs : subscripted slice false (.ref d) (.int k t) = operate [.ref d, .int k t] (getItem (.ref d) (.int k t)) := by with_unfolding_all rfl) (hg : ∀ r, letTemporaryGo value (.ref d) r = pure () := by intro _; with_unfolding_all rfl) :
    wpAny (model prog w) A (subscriptTail value slice (.ref d) (.int k t)) Q E s := by
  obtain ⟨o, ho, lo, hi⟩ := X.oat hd
  have hD := Heap.dictOf_iff.mpr ⟨o, ho, hi⟩
  exact subscriptTail_builtin hD.typeIs slot_dict_getitem.lookup (wpAny_getItem_of (intKind_is prog w k t) hD.mapOf hv (h _ (X.toks _))) hs hg
theorem din_x {Q : Value → Shared → Prop} (X : St R B F μ s) (hd : OAt B μ d (DI prog w d kvs)) (h : ∀ s', St R B F μ s' → Q (.bool (valueAt kvs k).isSome) s') : wpAny (model prog w) A (compareOp .In (.int k t) (.ref d)) Q E s := by
  obtain ⟨o, ho, lo, hi⟩ := X.oat hd
  have hD := Heap.dictOf_iff.mpr ⟨o, ho, hi⟩
  exact wpAny_in_of (intKind_is prog w k t) lo hD.mapOf (h _ (X.toks _))
theorem dset_x {Q : Unit → Shared → Prop} (X : St R B F μ s) (U : Set1 d (DI prog w d kvs) (DI prog w d (stored kvs k v)) μ μ') (hz : kvs.length ≤ 1000) (h : ∀ s', St R B F μ' s' → Q () s') : wpAny (model prog w) A (setItem (.ref d) (.int k t) v) Q E s := by
  obtain ⟨o, ho, lo, hi⟩ := X.get U.mem
  refine wpAny_setItem_pairs (hsz := by rw [sizeLine_eq]; (first | lia | omega)) (intKind_is prog w k t) (Heap.dictOf_iff.mpr ⟨o, ho, hi⟩) fun h' hmm hs => ?_
  obtain ⟨o', ho', hd'⟩ := Heap.dictOf_iff.mp hmm
  exact h _ (X.set1 (tk := s.toks + 1) U hs ⟨o', ho', lo, hd'⟩)
theorem ddel_x {Q : Unit → Shared → Prop} (X : St R B F μ s) (U : Set1 d (DI prog w d kvs) (DI prog w d (without kvs k)) μ μ') (hl : (valueAt kvs k).isSome = true) (hz : kvs.length ≤ 1000) (h : ∀ s', St R B F μ' s' → Q () s') :
    wpAny (model prog w) A (delItem (.ref d) (.int k t)) Q E s := by
  obtain ⟨o, ho, lo, hi⟩ := X.get U.mem
  have hD : s.heap.DictOf (intKind prog w) d kvs := Heap.dictOf_iff.mpr ⟨o, ho, hi⟩
  unfold delItem
  try with_reducible refine wpAny_holding ?_
  refine wpAny_bind (wpAny_sequenceKey hD.typeIs (by decide) ?_)
  refine wpAny_bind (wpAny_callSpecial?_slot (name := Str.ofString "__delitem__") hD.typeIs PySem.F.slot_dict_delitem
    (call_meetsIn PySem.F.slot_dict_delitem hD.typeIs PySem.F.entry_dict_delitem (PySem.F.args_dict_delitem_2 _ _) (meets_dict_delitem_pairs (intKind prog w) d (intKind_is prog w k t)) ⟨kvs, hD, by rw [sizeLine_eq]; (first | lia | omega), hl, fun h' hmm hs => ?_⟩))
  obtain ⟨o', ho', hd'⟩ := Heap.dictOf_iff.mp hmm
  exact wpAny_pure (h _ (X.set1 (tk := s.toks + 1) U hs ⟨o', ho', lo, hd'⟩))

theorem dvalues_m {pl : Sem Bool} {Q : Value × List Value → Shared → Prop} (X : St R B F μ s) (hd : OAt B μ d (DI prog w d kvs)) (h : Q (.builtin "dict.values", [.ref d]) s) : wpAny (model prog w) A (getMethod (.ref d) "values" pl) Q E s := by
  obtain ⟨o, ho, _, hi⟩ := X.oat hd
  have hD := Heap.dictOf_iff.mpr ⟨o, ho, hi⟩
  exact getMethod_builtin hD.typeIs PySem.F.plainAttrs_dict PySem.F.slot_dict_values PySem.F.type_dict_values hD.mapOf.noDict h
theorem dvalues_x {o : Obj} {Q : Value → Shared → Prop} (X : St R B F μ s) (hd : B d = some o) (hD : DI prog w d kvs o)
    (h : ∀ r s', St R B F ((r, ItP { cls := .type "dict_values", data := .fields #[.ref d] }) :: μ) s' → Q (.ref r) s') : wpAny (model prog w) A (call (.builtin "dict.values") [.ref d]) Q E s := by
  have hD' := Heap.dictOf_iff.mpr ⟨o, X.keep _ _ hd, hD.2⟩
  exact call_meetsIn PySem.F.slot_dict_values hD'.typeIs PySem.F.entry_dict_values (PySem.F.args_dict_values_1 _) (meets_dict_values (intKind prog w) d hD.1) ⟨⟨_, hD'⟩, h _ _ (X.new (tk := s.toks) rfl)⟩
theorem it_values {o : Obj} {r : Addr} {Q : Value → Shared → Prop} (hA : A.handled = none) (X : St R B F ((r, ItP { cls := .type "dict_values", data := .fields #[.ref d] }) :: μ) s) (hd : B d = some o) (hD : DI prog w d kvs o)
    (h : ∀ I o s', IterAt "dict_valueiterator" prog w A B I kvs.length (fun i v => ∃ k, kvs[i]? = some (k, v)) 0 s'.heap → St R B F ((I, ItP o) :: μ) s' → Q (.ref I) s') : wpAny (model prog w) A (pyIter (.ref r)) Q E s := by
  have e := X.keep _ _ hd
  have hD' := Heap.dictOf_iff.mpr ⟨o, e, hD.2⟩
  obtain ⟨ep, hDA⟩ := hD'.dictAt
  refine wpAny_pyIter_values (knd := intKind prog w) (kvs := kvs) ⟨_, X.at1, rfl, rfl⟩ hDA (h s.heap.objs.size _ _ ?_ ((X.new (tk := s.toks) (o := { cls := .type "dict_valueiterator", data := .fields #[.ref d, .int 0 0, .int kvs.length 0, .int ep 0] }) (P := ItP { cls := .type "dict_valueiterator", data := .fields #[.ref d, .int 0 0, .int kvs.length 0, .int ep 0] }) rfl).perm (.swap _ _ _)).drop1)
  have hne : d ≠ s.heap.objs.size := Nat.ne_of_lt (Heap.lt_size e)
  have W := Walks.dictValues (prog := prog) (w := w) (knd := intKind prog w) hA s.heap.objs.size d hne kvs ep
  refine ⟨_, _, W, fun b hb => ?_, fun i h st => ?_, ⟨⟨_, Heap.get?_push_size _ rfl, rfl, rfl⟩, hDA.push _⟩⟩
  · simp at hb; exact hb.imp id fun e' => ⟨_, e' ▸ hd⟩
  · obtain ⟨⟨o, ho, hc, _⟩, _⟩ := st; exact ⟨o, ho, hc⟩
theorem it_keys {o : Obj} {Q : Value → Shared → Prop} (hA : A.handled = none) (X : St R B F μ s) (hd : B d = some o) (hD : DI prog w d kvs o)
    (h : ∀ I o s', IterAt "dict_keyiterator" prog w A B I kvs.length (fun i v => ∃ k x, kvs[i]? = some (k, x) ∧ (intKind prog w).is k v = true) 0 s'.heap → St R B F ((I, ItP o) :: μ) s' → Q (.ref I) s') : wpAny (model prog w) A (pyIter (.ref d)) Q E s := by
  have e := X.keep _ _ hd
  have hD' := Heap.dictOf_iff.mpr ⟨o, e, hD.2⟩
  obtain ⟨ep, hDA⟩ := hD'.dictAt
  refine wpAny_pyIter_dict (knd := intKind prog w) (kvs := kvs) hD.1 hDA (h s.heap.objs.size _ _ ?_ (X.new (tk := s.toks) (o := { cls := .type "dict_keyiterator", data := .fields #[.ref d, .int 0 0, .int kvs.length 0, .int ep 0] }) rfl))
  have hne : d ≠ s.heap.objs.size := Nat.ne_of_lt (Heap.lt_size e)
  have W := Walks.dictKeys (prog := prog) (w := w) (knd := intKind prog w) hA s.heap.objs.size d hne kvs ep
  refine ⟨_, _, W, fun b hb => ?_, fun i h st => ?_, ⟨⟨_, Heap.get?_push_size _ rfl, rfl, rfl⟩, hDA.push _⟩⟩
  · simp at hb; exact hb.imp id fun e' => ⟨_, e' ▸ hd⟩
  · obtain ⟨⟨o, ho, hc, _⟩, _⟩ := st; exact ⟨o, ho, hc⟩

theorem newSet_x {Q : Value → Shared → Prop} (X : St R B F μ s) (h : ∀ a s', St R B F ((a, SI prog w (fun _ => false) 0) :: μ) s' → Q (.ref a) s') : wpAny (model prog w) A (call (.type "set") []) Q E s :=
  call_set_0 fun led => h _ _ (X.new (tk := s.toks) (setObjOf_fresh (knd := intKind prog w) led))
theorem sin_x {a : Addr} {S : Int → Bool} {n : Nat} {Q : Value → Shared → Prop} (X : St R B F μ s) (ha : (a, SI prog w S n) ∈ μ) (hb : n < 1000) (h : ∀ s', St R B F μ s' → Q (.bool (S k)) s') : wpAny (model prog w) A (compareOp .In (.int k t) (.ref a)) Q E s := by
  obtain ⟨o, ho, hs⟩ := X.get ha
  exact wpAny_inSet_of (intKind_is prog w k t) rfl (Obj.SetObjOf.setOf hs ho (by unfold scanBound; (first | lia | omega))) (h _ (X.toks _))
theorem sadd_m {a : Addr} {S : Int → Bool} {n : Nat} {pl : Sem Bool} {Q : Value × List Value → Shared → Prop} (X : St R B F μ s) (ha : (a, SI prog w S n) ∈ μ) (hb : n < 1000) (h : Q (.builtin "set.add", [.ref a]) s) : wpAny (model prog w) A (getMethod (.ref a) "add" pl) Q E s := by
  obtain ⟨o, ho, hs⟩ := X.get ha
  exact getMethod_set_add (Obj.SetObjOf.setOf hs ho (by unfold scanBound; (first | lia | omega))) h
theorem sadd_x {a : Addr} {S : Int → Bool} {n n' : Nat} {Q : Value → Shared → Prop} (X : St R B F μ s) (U : Set1 a (SI prog w S n) (SI prog w (fun k' => S k' || decide (k' = k)) n') μ μ') (hn : n' = if S k then n else n + 1) (hb : n < 1000) (h : ∀ s', St R B F μ' s' → Q .none s') :
    wpAny (model prog w) A (call (.builtin "set.add") [.ref a, .int k t]) Q E s := by
  obtain ⟨o, ho, hs⟩ := X.get U.mem
  refine call_set_add (intKind_is prog w k t) rfl (Obj.SetObjOf.setOf hs ho (by unfold scanBound; (first | lia | omega))) (by unfold scanBound; (first | lia | omega)) fun h' hsb hS' => ?_
  obtain ⟨o', ho', hs'⟩ := hS'.objOf
  exact h _ (X.set1 (tk := s.toks + 1) U hsb ⟨o', ho', hn ▸ hs'⟩)
end
end text_LyO
section text_LyP
set_option maxRecDepth 100000
set_option maxHeartbeats 1000000

/-- the frames on the stack are frames of the state -/
noncomputable def FrF (l : List Env) (F : List (Addr × NM)) : Prop := ∀ env ∈ l, env.scope.kind ≠ .module ∧ ∃ L m, env.frame = some L ∧ (L, m) ∈ F
theorem FrF.nil {F : List (Addr × NM)} : FrF [] F := fun _ h => nomatch h
theorem FrF.cons {l : List Env} {F : List (Addr × NM)} {env : Env} {L : Addr} {m : NM} (h : FrF l F) (hk : env.scope.kind ≠ .module) (hf : env.frame = some L) : FrF (env :: l) ((L, m) :: F) := fun e he => by
  rcases List.mem_cons.mp he with rfl | he
  · exact ⟨hk, L, m, hf, .head _⟩
  · obtain ⟨h1, L', m', h2, h3⟩ := h e he
    exact ⟨h1, L', m', h2, .tail _ h3⟩
theorem FrF.keys {l : List Env} {F F' : List (Addr × NM)} (h : FrF l F) (hk : F.map (·.1) = F'.map (·.1)) : FrF l F' := fun e he => by
  obtain ⟨h1, L', m', h2, h3⟩ := h e he
  have : L' ∈ F.map (·.1) := List.mem_map_of_mem (f := (·.1)) h3
  rw [hk] at this
  obtain ⟨p, hp, e'⟩ := List.mem_map.mp this
  exact ⟨h1, L', p.2, h2, by rw [← e']; exact hp⟩
theorem FrF.head {l : List Env} {F : List (Addr × NM)} {L : Addr} {m m' : NM} (h : FrF l ((L, m) :: F)) : FrF l ((L, m') :: F) := h.keys rfl

structure Flt (R : Shared) (B : BM) (F : List (Addr × NM)) (μ : Led) (base : Heap) (s : Shared) : Prop where
  kb : ∀ b o, B b = some o → base.get? b = some o
  km : ∀ p ∈ μ, ∃ o, base.get? p.1 = some o ∧ p.2 o
  st : St R B F μ s

section
variable {R : Shared} {B : BM} {F : List (Addr × NM)} {μ : Led} {base : Heap} {s : Shared} {l outer : List Env} {e L : Addr} {cls : Value} {env : Env} {m : NM}

theorem Flt.next (X : Flt R B F μ base s) {h' : Heap} (k : base.StaysIn h') (u : s.heap.UpToSlots h') : Flt R B F μ base { s with heap := h' } :=
  ⟨X.kb, X.km, ⟨fun p hp => u.ns (X.st.fr p hp), X.st.fb, X.st.fm, X.st.fd, fun b o q => k b o (X.kb b o q), fun p hp => let ⟨o, ho, z⟩ := X.km p hp; ⟨o, k _ _ ho, z⟩, X.st.mb, X.st.md, X.st.gens, X.st.os, X.st.drawn⟩⟩
theorem Flt.leave {f : Addr × NM} (X : Flt R B (f :: F) μ base s) : Flt R B F μ base s := ⟨X.kb, X.km, X.st.leave⟩

noncomputable def Exc0 (R : Shared) (B : BM) (F : List (Addr × NM)) (μ : Led) (l : List Env) (e : Addr) (cls : Value) (s : Shared) : Prop :=
  ∃ base, Flt R B F μ base s ∧ base.StaysIn s.heap ∧ base.get? e = none ∧ s.heap.FunFrames base l ∧ ∃ oe vs a0, s.heap.get? e = some oe ∧ oe.cls = cls ∧ oe.data = .fields vs ∧ vs[1]? = some .none ∧ vs[0]? = some a0
noncomputable def ExcH (R : Shared) (B : BM) (F : List (Addr × NM)) (μ : Led) (l : List Env) (e : Addr) (cls : Value) (L : Addr) (s : Shared) : Prop := ∃ base a0, Flt R B F μ base s ∧ Heap.HeldW base l e cls a0 L s.heap
noncomputable def ExcF (R : Shared) (B : BM) (F : List (Addr × NM)) (μ : Led) (l : List Env) (e : Addr) (cls : Value) (s : Shared) : Prop := ∃ base a0, Flt R B F μ base s ∧ Heap.FlyingW base l e cls a0 s.heap
theorem ExcF.st (X : ExcF R B F μ l e cls s) : St R B F μ s := let ⟨_, _, a, _⟩ := X; a.st

theorem exc0_of (X : St R B F μ s) (hl : FrF l F) {h' : Heap} {tk : Nat} (hk : ∀ b o, s.heap.get? b = some o → h'.get? b = some o) (hn : s.heap.get? e = none)
    (ht : ∃ oe vs a0, h'.get? e = some oe ∧ oe.cls = cls ∧ oe.data = .fields vs ∧ vs[1]? = some .none ∧ vs[0]? = some a0) : Exc0 R B F μ l e cls { s with heap := h', toks := tk } := by
  have hin : ∀ b ∈ l.filterMap (·.frame), b ∈ F.map (·.1) := fun b hb => by
    obtain ⟨env, he, hf⟩ := List.mem_filterMap.mp hb
    obtain ⟨_, L, m, h1, h2⟩ := hl env he
    rw [h1] at hf; cases hf
    exact List.mem_map_of_mem (f := (·.1)) h2
  have hbF : ∀ b ∈ F.map (·.1), B b = none := fun b hb => by
    obtain ⟨p, hp, rfl⟩ := List.mem_map.mp hb
    exact X.fb p hp
  have hmF : ∀ b ∈ F.map (·.1), b ∉ μ.map (·.1) := fun b hb => by
    obtain ⟨p, hp, rfl⟩ := List.mem_map.mp hb
    exact X.fm p hp
  refine ⟨hideAll s.heap (l.filterMap (·.frame)), ⟨fun b o q => ?_, fun p hp => ?_, X.grow hk⟩, fun b o q => hk b o (of_hideAll _ q), ?_, ?_, ht⟩
  · refine hideAll_get _ (X.keep b o q) fun hm => ?_
    rw [hbF b (hin b hm)] at q; cases q
  · obtain ⟨o, ho, z⟩ := X.led p hp
    exact ⟨o, hideAll_get _ ho fun hm => hmF _ (hin _ hm) (List.mem_map_of_mem (f := (·.1)) hp), z⟩
  · cases q : (hideAll s.heap (l.filterMap (·.frame))).get? e with
    | none => rfl
    | some o => have := of_hideAll _ q; rw [hn] at this; cases this
  · have gen : ∀ l' : List Env, (∀ x ∈ l', x ∈ l) → h'.FunFrames (hideAll s.heap (l.filterMap (·.frame))) l' := by
      intro l'
      induction l' with
      | nil => exact fun _ => trivial
      | cons x r ih =>
        intro hs
        obtain ⟨h1, L, m, h2, h3⟩ := hl x (hs x (.head _))
        obtain ⟨o, es, ep, ho, hd, _⟩ := X.fr (L, m) h3
        exact ⟨h1, ⟨L, o, h2, hideAll_none _ (List.mem_filterMap.mpr ⟨x, hs x (.head _), h2⟩), hk _ _ ho, fun vs q => by rw [hd] at q; cases q⟩, ih fun y hy => hs y (.tail _ hy)⟩
    exact gen l fun _ h => h

variable {M : Model} {A : Around} {E : Value → Shared → Prop}
theorem note0 {Q : Unit → Shared → Prop} (hfr : A.frames = some (env :: outer)) (hf : env.frame = some L) (X : Exc0 R B F μ (env :: outer) e cls s) (h : ∀ s', ExcH R B F μ (env :: outer) e cls L s' → Q () s') :
    wpAny M A (noteFrame (.ref e) env) Q E s := by
  obtain ⟨base, X, k, hn, hl, oe, vs, a0, he, hc, hd, h1, h0⟩ := X
  unfold noteFrame
  simp only [hf]
  refine wpAny_bind (wpAny_field he hd h1 ?_)
  rw [if_neg (by simp)]
  refine wpAny_mono (wpAny_entryW (base := base) (outer := outer) hfr hl hf he k hn hd (by have := (Array.getElem?_eq_some_iff.mp h1).1; exact this) h0 (Q := Q) fun h' hN => ?_) (fun _ _ x => x) fun _ _ x => x
  obtain ⟨k1, k2, k3, k4⟩ := hN
  exact h _ ⟨base, a0, X.next k1 k4, k1, hn, k2, hc ▸ k3⟩
theorem noteH {Q : Unit → Shared → Prop} (hf : env.frame = some L) (X : ExcH R B F μ l e cls L s) (h : Q () s) : wpAny M A (noteFrame (.ref e) env) Q E s := by
  obtain ⟨base, a0, X, hh⟩ := X
  exact wpAny_noteFrame_againW hf hh.2.2.2 h
theorem noteF {Q : Unit → Shared → Prop} (hfr : A.frames = some (env :: outer)) (hf : env.frame = some L) (X : ExcF R B F μ (env :: outer) e cls s) (h : ∀ s', ExcH R B F μ (env :: outer) e cls L s' → Q () s') :
    wpAny M A (noteFrame (.ref e) env) Q E s := by
  obtain ⟨base, a0, X, hh⟩ := X
  exact wpAny_looks_onW hfr hf hh fun h' hH u => h _ ⟨base, a0, X.next hH.1 u, hH⟩
theorem flightH {Q : Unit → Shared → Prop} (X : ExcH R B F μ l e cls L s) (h : ∀ s', ExcF R B F μ l e cls s' → Q () s') : wpAny M A (setFlight (.ref e) none) Q E s := by
  obtain ⟨base, a0, X, hh⟩ := X
  exact wpAny_landsW hh fun h' hF u => h _ ⟨base, a0, X.next hF.1 u, hF⟩
theorem flightF {Q : Unit → Shared → Prop} (X : ExcF R B F μ l e cls s) (h : ∀ s', ExcF R B F μ l e cls s' → Q () s') : wpAny M A (setFlight (.ref e) none) Q E s := by
  obtain ⟨base, a0, X, hh⟩ := X
  exact lands_againW hh fun h' hF u => h _ ⟨base, a0, X.next hF.1 u, hF⟩
theorem ExcF.leave {f : Addr × NM} (X : ExcF R B (f :: F) μ (env :: outer) e cls s) : ExcF R B F μ outer e cls s := by
  obtain ⟨base, a0, X, k1, k2, ⟨_, _, k3⟩, k4⟩ := X
  exact ⟨base, a0, X.leave, k1, k2, k3, k4⟩
/-- out of a frame -/
theorem leaveH {f : Addr × NM} {Q : Unit → Shared → Prop} (hf : env.frame = some L) (X : ExcH R B (f :: F) μ (env :: outer) e cls L s) (h : ∀ s', ExcF R B F μ outer e cls s' → Q () s') : wpAny M A (leaving env (.ref e)) Q E s := by
  unfold leaving
  exact wpAny_bind (noteH hf X (flightH X fun s' X' => h s' X'.leave))
theorem leave0 {f : Addr × NM} {Q : Unit → Shared → Prop} (hfr : A.frames = some (env :: outer)) (hf : env.frame = some L) (X : Exc0 R B (f :: F) μ (env :: outer) e cls s) (h : ∀ s', ExcF R B F μ outer e cls s' → Q () s') : wpAny M A (leaving env (.ref e)) Q E s := by
  unfold leaving
  exact wpAny_bind (note0 hfr hf X fun s' X' => flightH X' fun s' X' => h s' X'.leave)
theorem cameBack (hf : env.frame = some L) (X : ExcH R B F μ l e cls L s) (h : ∀ s', ExcH R B F μ l e cls L s' → E (.ref e) s') : cameBackBy M A env E (.ref e) s := by
  obtain ⟨base, a0, X, f1, f2, f3, oe, vs, T, oT, ts, he, hcls, hd, h1, hnT, hTe, hT, hdT, h3⟩ := X
  unfold cameBackBy
  refine wpAny_bind (wpAny_field he hd h1 ?_)
  rw [if_neg (by simp)]
  unfold setFlight
  refine wpAny_bind (wpAny_field he hd h1 ?_)
  rw [if_pos (by simp), hf]
  have hsz3 : 3 < ts.size := (Array.getElem?_eq_some_iff.mp h3).1
  refine wpAny_setField hT hdT hsz3 ?_
  have e0 : ∀ b, b ≠ T → (s.heap.update T (Obj.mapFields (·.setIfInBounds 3 (rawInt L)))).get? b = s.heap.get? b := fun b hb => (Heap.SameBut.update s.heap T _).2 b hb
  have k1 : base.StaysIn (s.heap.update T (Obj.mapFields (·.setIfInBounds 3 (rawInt L)))) := fun b o q => by
    rw [e0 b (fun z => by rw [z, hnT] at q; cases q)]; exact f1 b o q
  have u : s.heap.UpToSlots (s.heap.update T (Obj.mapFields (·.setIfInBounds 3 (rawInt L)))) := fun b o q hn => by
    refine ⟨o.slots, ?_⟩
    rw [e0 b (fun z => by rw [z, hT] at q; cases q; exact hn _ hdT)]; exact q
  have hT' : (s.heap.update T (Obj.mapFields (·.setIfInBounds 3 (rawInt L)))).get? T = some (Obj.mapFields (·.setIfInBounds 3 (rawInt L)) oT) := Heap.get?_update_self _ hT (by
    obtain ⟨c, d, dt, sl⟩ := oT; dsimp only at hdT; subst hdT; rfl)
  have hdT' : (Obj.mapFields (·.setIfInBounds 3 (rawInt L)) oT).data = .fields (ts.setIfInBounds 3 (rawInt L)) := by
    obtain ⟨c, d, dt, sl⟩ := oT; dsimp only at hdT; subst hdT; rfl
  exact h _ ⟨base, a0, X.next k1 u, k1, f2, f3.of_keeps (fun b o q hn => by obtain ⟨sl, z⟩ := u b o q hn; exact ⟨_, z, rfl⟩), oe, vs, T, _, _, (e0 e (fun z => hTe z.symm)).trans he, hcls, hd, h1, hnT, hTe, hT', hdT', by simp [hsz3]⟩
end

section
variable {prog : Program} {w : World} {A : Around} {E : Value → Shared → Prop} {s : Shared} {env : Env} {R : Shared} {B B' : BM} {F : List (Addr × NM)} {μ μ' : Led} {L I d e : Addr} {m m' : NM} {K : Frag} {l outer : List Env}
/-- a clause that takes it -/
theorem handle_x {X T x : String} {np : Pos} {b₀ : Stmt} {suite : List Stmt} {pos : Pos} {rest : List ExceptHandler} {Q : Flow → Shared → Prop} (hB : Base K B) (Z : ExcF R B F μ l e (.type X) s)
    (hx : env.kindOf (Str.ofString x) = some .globalImplicit) (hng : nsIn K mainGlobals (Str.ofString x) = some none) (hv : bootBuiltins (Str.ofString x) = some (.type T)) (hn : Str.ofString x ≠ "__name__")
    (hexc : isSubtype (.type T) (.type "BaseException") = pure true) (hnt : isSubtype (.type ((Manifest.find? T).elim "type" fun y => y.metatype)) (.type "tuple") = pure false) (hsub : isSubtype (.type X) (.type T) = pure true)
    (h : ∀ s', St R B F μ s' → wpAny (model prog w) (A.mark (some (.ref e))) (execs (b₀ :: suite) env) Q (notedBy (model prog w) (A.mark (some (.ref e))) env (cameBackBy (model prog w) A env E)) s')
    (hg : env.globals = mainGlobals := by rfl) (hb : env.builtins = builtinsNs := by rfl) (hk : env.scope.kind = .function := by rfl) (hd : (Str.ofString x == ("__debug__" : Str)) = false := by decide) :
    wpAny (model prog w) A (handleBy (.ref e) env (.ExceptHandler (some (.Name (Str.ofString x) np)) none (b₀ :: suite) pos :: rest)) Q E s := by
  obtain ⟨base, a0, X', hF⟩ := id Z
  obtain ⟨ob, hob, hobc⟩ := hF.there
  refine wpAny_handleBy_builtin (X := X) (T := T) (b := true) hexc hnt hsub (name_b hx hB X'.st hng hv hn ⟨rfl, ⟨ob, hob, hobc⟩, ?_⟩ hg hb hk hd)
  rw [if_pos rfl]
  exact flightF Z fun s' Z' => h s' Z'.st
end
end text_LyP
section text_LyQ
set_option maxRecDepth 100000
set_option maxHeartbeats 1000000

section
variable {prog : Program} {w : World} {A : Around} {E : Value → Shared → Prop} {s : Shared} {env : Env} {R : Shared} {B B' : BM} {F : List (Addr × NM)} {μ μ' : Led} {L I : Addr} {m m' : NM} {K : Frag}
  {x C dx dn : Addr} {name : Str} {v : Value} {k k' n : Nat} {P P' : Obj → Prop} {T : String} {o : Obj} {Pi : Nat → Value → Prop}

theorem getattr_o {expr : Bool} {cd : ClassData} {Q : Value → Shared → Prop} (hB : Base K B) (X : St R B F μ s) (hx : B x = some (instObj C dx)) (hd : (dx, P) ∈ μ) (hP : ∀ o, P o → ∃ k m v, NsO k m o ∧ m name = some v ∧ handedIn v = true ∧ ∀ s', St R B F μ s' → Q v s')
    (hf : findIn K (.ref C) name = some none) (hga : findIn K (.ref C) "__getattribute__" = some (some (.builtin "object.__getattribute__"))) (hc : clsIn K C = some cd) (hh : cd.hasDict = true) :
    wpAny (model prog w) A (getAttr (.ref x) name expr) Q E s := by
  obtain ⟨od, hod, hPo⟩ := X.get hd
  obtain ⟨k, m, v, hN, hv, hv', h⟩ := hP od hPo
  have I : InstAt s.heap x (instObj C dx) C (some od) := ⟨X.keep _ _ hx, rfl, rfl, hod⟩
  refine get_value (hB.inH X) I hga ?_ hv' (h _ (X.toks _))
  unfold findObj
  rw [hc, Option.bind_some, hf, Option.bind_some]
  show (W.ownOf cd (some od) name).bind _ = _
  unfold W.ownOf
  rw [hh, if_pos rfl]
  show (lookIn name od).bind _ = _
  rw [hN.look, hv]
  rfl
theorem setattr_o {Q : Unit → Shared → Prop} (hB : Base K B) (X : St R B F μ s) (hx : B x = some (instObj C dx)) (U : Set1 dx P P' μ μ')
    (hP : ∀ o, P o → ∃ k m, k ≤ 900 ∧ NsO k m o ∧ ∀ o', NsO (if (m name).isSome then k else k + 1) (put m name v) o' → P' o')
    (hs : findIn K (.ref C) "__setattr__" = some (some (.builtin "object.__setattr__"))) (hp : plainOver K C = true) (ht : takerIn K C name = some none) (hh : (clsIn K C).any (·.hasDict) = true)
    (h : ∀ s', St R B F μ' s' → Q () s') : wpAny (model prog w) A (setAttr (.ref x) name v) Q E s := by
  obtain ⟨ν, p1, p2⟩ := U.front
  have X := X.perm p1
  obtain ⟨od, hPo, hod, X⟩ := X.sharp
  obtain ⟨k, m, hz, hN, hP'⟩ := hP od hPo
  have X := X.weak1 (P' := NsO k m) (fun o ho => by cases ho; exact hN)
  exact setattr_d hB X hx .head rfl hz hs hp ht hh fun s' Y => h s' ((Y.weak1 hP').perm p2.symm)
theorem method_o {f : Addr} {pl : Sem Bool} {Q : Value × List Value → Shared → Prop} (hB : Base K B) (X : St R B F μ s) (hx : B x = some (instObj C dx)) (hd : (dx, P) ∈ μ) (hP : ∀ o, P o → ∃ k m, NsO k m o ∧ m name = none)
    (hga : findIn K (.ref C) "__getattribute__" = some (some (.builtin "object.__getattribute__"))) (hk : findIn K (.ref C) "__getattr__" = some none)
    (hf : findIn K (.ref C) name = some (some (.ref f))) (ht : typeIn K (.ref f) = some (.type "function")) (h : Q (.ref f, [.ref x]) s) : wpAny (model prog w) A (getMethod (.ref x) name pl) Q E s := by
  obtain ⟨od, hod, hPo⟩ := X.get hd
  obtain ⟨k, m, hN, hn⟩ := hP od hPo
  have I : InstAt s.heap x (instObj C dx) C (some od) := ⟨X.keep _ _ hx, rfl, rfl, hod⟩
  refine method_fn (hB.inH X) I hga hk hf ht ?_ h
  unfold shadowIn
  dsimp only
  rw [hN.look, hn]; rfl
theorem slotget_o {expr : Bool} {p i : Nat} {Q : Value → Shared → Prop} (hB : Base K B) (X : St R B F μ s) (hx : (x, P) ∈ μ) {od : Obj} (hdn : B dn = some od) (hP : ∀ o, P o → ∃ vs v, SlP C dn vs o ∧ (vs[i]?).join = some v ∧ handedIn v = true ∧ ∀ s', St R B F μ s' → Q v s')
    (hf : findObj K C (some od) name = some (.bind (.builtin "member_descriptor.__get__") (.ref p))) (hga : findIn K (.ref C) "__getattribute__" = some (some (.builtin "object.__getattribute__")))
    (hk : findIn K (.ref C) "__getattr__" = some none) (hp : slotIn K p C = some i) :
    wpAny (model prog w) A (getAttr (.ref x) name expr) Q E s := by
  obtain ⟨ox, hox, hPo⟩ := X.get hx
  obtain ⟨vs, v, rfl, hv, hv', h⟩ := hP ox hPo
  have I : InstAt s.heap x ⟨.ref C, some dn, .plain, vs.toArray⟩ C (some od) := ⟨hox, rfl, rfl, X.keep _ _ hdn⟩
  have KX := hB.inH X
  refine get_bind KX I hga hf hk (wpAny_call (slot_get (s := { s with toks := s.toks + 1 }) KX I hp (by simpa using hv) ?_))
  show wpAny _ _ (handedOut v) _ _ _
  rw [handedOut_of hv']
  exact wpAny_pure (h _ (X.toks _))
theorem slotset_o {p i : Nat} {od : Obj} {Q : Unit → Shared → Prop} (hB : Base K B) (X : St R B ((L, m) :: F) μ s) (hdn : B dn = some od)
    (U : Set1 x P P' μ μ') (hP : ∀ o, P o → ∃ vs, SlP C dn vs o ∧ ∀ o', SlP C dn (setSl vs i v) o' → P' o')
    (hs : findIn K (.ref C) "__setattr__" = some (some (.builtin "object.__setattr__"))) (hpo : plainOver K C = true) (ht : takerIn K C name = some (some (.ref p)))
    (hT : typeIn K (.ref p) = some (.type "member_descriptor")) (hp : slotIn K p C = some i) (hi : i < 1000) (h : ∀ s', St R B ((L, m) :: F) μ' s' → Q () s') :
    wpAny (model prog w) A (setAttr (.ref x) name v) Q E s := by
  obtain ⟨ν, p1, p2⟩ := U.front
  have X := X.perm p1
  obtain ⟨od', hPo, hod, X⟩ := X.sharp
  obtain ⟨vs, hS, hP'⟩ := hP od' hPo
  have X := X.weak1 (P' := SlP C dn vs) (fun o ho => by cases ho; exact hS)
  exact slotset hB X hdn .head rfl hs hpo ht hT hp hi fun s' Y => h s' ((Y.weak1 hP').perm p2.symm)

/-- a loop whose turn may raise -/
theorem for_xE {target : Expr} {body : List Stmt} {R' : Result → Shared → Prop} (J : Nat → BM → NM → Led → Prop)
    (TT : IterAt T prog w A B I n Pi 0 s.heap) (X : St R B ((L, m) :: F) ((I, ItP o) :: μ) s) (h0 : J 0 B m μ)
    (hgo : ∀ v s' (Q' : Unit → Shared → Prop) E', (∃ o, s'.heap.get? I = some o ∧ o.cls = .type T) → Q' () s' → wpAny (model prog w) A (letOwnedTupleGo target (.ref I) v) Q' E' s')
    (turn : ∀ i v B' m' μ' o' s', i < n → Pi i v → Sub B B' → J i B' m' μ' → St R B' ((L, m') :: F) ((I, ItP o') :: μ') s' →
      ∀ Qn : Flow → Shared → Prop, (∀ f s₃, LoopPost R B' L F I o' (J (i + 1)) R' f s₃ → Qn f s₃) →
      wpAny (model prog w) A (assign target env v) (fun _ s₂ => wpAny (model prog w) A (execs body env) Qn (notedBy (model prog w) A env fun e s' => R' (.error e) s') s₂) (notedBy (model prog w) A env fun e s' => R' (.error e) s') s')
    (done : ∀ B' m' μ' s', Sub B B' → J n B' m' μ' → St R B' ((L, m') :: F) μ' s' → R' (.ok .next) s') :
    codeAny (model prog w) A (.forLoop target (.ref I) body [] env) R' s := by
  refine codeAny_forLoop_any (fun k s' => ∃ i B' m' μ' o', Sub B B' ∧ J i B' m' μ' ∧ St R B' ((L, m') :: F) ((I, ItP o') :: μ') s' ∧ IterAt T prog w A B' I n Pi i s'.heap ∧ i ≤ n ∧ k = n - i) ?_ n ⟨0, B, m, μ, o, Sub.refl _, h0, X, TT, Nat.zero_le _, rfl⟩
  rintro k s' ⟨i, B', m', μ', o', hs, hJ, Y, T', hi, rfl⟩
  by_cases hin : i < n
  · refine next_item Y T' hin fun v o'' s2 hP T'' Y' => ?_
    refine hgo v s2 _ _ (let ⟨fp, St', W, hf, ho, st⟩ := T''; ho _ _ st) ?_
    refine wpAny_mono (turn i v B' m' μ' o'' s2 hin hP hs hJ Y' _ fun _ _ h => h) (fun _ s3 h3 => wpAny_mono h3 (fun f s4 h4 => ?_) fun _ _ e => e) fun _ _ e => e
    cases f with
    | brk => exact h4
    | ret v => exact h4
    | next =>
      obtain ⟨B2, m2, μ2, hs2, Y2, J2⟩ := h4
      exact ⟨n - (i + 1), by (first | lia | omega), i + 1, B2, m2, μ2, o'', hs.trans hs2, J2, Y2, (T''.keep Y' (Y2.less hs2)).sub hs2, hin, rfl⟩
    | cont =>
      obtain ⟨B2, m2, μ2, hs2, Y2, J2⟩ := h4
      exact ⟨n - (i + 1), by (first | lia | omega), i + 1, B2, m2, μ2, o'', hs.trans hs2, J2, Y2, (T''.keep Y' (Y2.less hs2)).sub hs2, hin, rfl⟩
  · have e : i = n := by (first | lia | omega)
    subst e
    exact next_done Y T' fun s2 Y2 => wpAny_execs_nil (done B' m' μ' s2 hs hJ Y2)

section
variable {a b : Int} {t u : Tok} {Q : Value → Shared → Prop}
theorem i_add (X : St R B F μ s) (h : ∀ t s', St R B F μ s' → Q (.int (a + b) t) s') : wpAny (model prog w) A (inplaceOp .Add (.int a t) (.int b u)) Q E s := AutoIntOps.iadd_0 (h _ _ (X.toks _))
theorem i_sub (X : St R B F μ s) (h : ∀ t s', St R B F μ s' → Q (.int (a - b) t) s') : wpAny (model prog w) A (inplaceOp .Sub (.int a t) (.int b u)) Q E s := AutoIntOps.isub_0 (h _ _ (X.toks _))
theorem len_tup {ta : Addr} {vs : List Value} {c : Nat} (X : St R B F μ s) (ht : s.heap.get? ta = some { cls := .type "tuple", data := .seq vs.toArray c }) (hz : vs.length ≤ 1000) (h : ∀ t s', St R B F μ s' → Q (.int vs.length t) s') :
    wpAny (model prog w) A (call (.builtin "len") [.ref ta]) Q E s := by
  exact PyProof.Rows.len_tuple (items := vs.toArray) ⟨_, ht, rfl, c, rfl⟩ (by rw [List.size_toArray]; (first | lia | omega)) (by rw [List.size_toArray]; exact h _ _ (X.toks _))
end
end
end text_LyQ
section text_LyR
set_option maxRecDepth 100000
set_option maxHeartbeats 1000000
open Sem (wp)

theorem meets_bool_list (l : Addr) (items : Array Value) (hz : items.size ≤ 1000) :
    Meets (Builtin.«bool.__new__» ⟨[.type "bool", .ref l], []⟩) (fun _ R s => s.heap.IsList l items ∧ R (.ok (.ret (.bool (!items.isEmpty)))) { s with toks := s.toks + 1 + 1 }) :=
  Meets.of_wp fun prog w A R s hs => by
    obtain ⟨hp, g, d, tk, os⟩ := s
    obtain ⟨hl, hs⟩ := hs
    have f1 := PySem.F.conv_sub_bool
    repeat (any_goals (first | assumption | (with_reducible refine wpAny_truthy_list (s := ⟨hp, g, d, tk, os⟩) hl (by (first | lia | omega)) ?_) | wp_step))
    all_goals first | exact ⟨_, rfl, hs⟩ | exact hs | skip

section
variable {prog : Program} {w : World} {A : Around} {E : Value → Shared → Prop} {s : Shared} {env : Env} {R : Shared} {B B' : BM} {F : List (Addr × NM)} {μ μ' : Led} {L I a : Addr} {m m' : NM} {K : Frag} {α : Type} {rel : α → Value → Prop} {xs : List α} {Q : Value → Shared → Prop}
theorem bool_x (X : St R B F μ s) (hl : LAt B μ a rel xs) (hz : xs.length ≤ 1000) (h : ∀ s', St R B F μ s' → Q (.bool (!xs.isEmpty)) s') : wpAny (model prog w) A (call (.type "bool") [.ref a]) Q E s := by
  obtain ⟨vs, n, r, e⟩ := X.lst hl
  have hl := r.length
  have e2 : vs.toArray.isEmpty = xs.isEmpty := by cases r <;> simp
  refine call_bool_1 (meets_bool_list a vs.toArray (by rw [List.size_toArray]; (first | lia | omega))) ⟨isList_of e, ?_⟩
  exact ⟨rfl, by rw [e2]; exact h _ (X.toks _)⟩
theorem tuple_x (X : St R B F μ s) (hl : LAt B μ a rel xs) (hz : xs.length ≤ 1000) (h : ∀ t s', St R B F ((t, XT rel xs) :: μ) s' → Q (.ref t) s') : wpAny (model prog w) A (call (.type "tuple") [.ref a]) Q E s := by
  obtain ⟨vs, n, r, e⟩ := X.lst hl
  have hl := r.length
  refine call_tuple_list (isList_of e) (fun h' hk => ?_) (by rw [sizeLine_eq, List.size_toArray]; (first | lia | omega))
  exact h _ _ ((X.grow (tk := s.toks) hk).new (tk := s.toks) ⟨vs, r, 0, rfl⟩)
theorem clear_x (X : St R B F μ s) (U : Set1 a (XL rel xs) (XL rel []) μ μ') (hz : xs.length ≤ 1000) (h : ∀ s', St R B F μ' s' → Q .none s') : wpAny (model prog w) A (call (.builtin "list.clear") [.ref a]) Q E s := by
  obtain ⟨vs, n, r, e⟩ := X.lst (.inr U.mem)
  have hl := r.length
  refine call_meets PySem.F.slot_list_clear ⟨_, e, rfl⟩ PySem.F.entry_list_clear (PySem.F.args_list_clear_1 _) (PySem.AutoSeq1.list_clear_list_0 a _ n (by rw [sizeLine_eq, List.size_toArray]; (first | lia | omega))) ⟨e, h _ (X.set1 (tk := s.toks) U (Heap.SameBut.update ..) ?_)⟩
  exact ⟨_, PySem.IsL.update e fun _ => #[], [], .nil, _, rfl⟩
end
end text_LyR
section text_LyS
set_option maxRecDepth 100000
set_option maxHeartbeats 1000000

section
variable {prog : Program} {w : World} {A : Around} {E : Value → Shared → Prop} {s : Shared} {env : Env} {R : Shared} {B B' : BM} {F : List (Addr × NM)} {μ μ' : Led} {L I a : Addr} {m m' : NM} {K : Frag}
theorem fstr3 {a b n : Str} {k : Int} {t : Tok} {k0 k1 : Nat} {p0 p1 p2 p pos : Pos} {Q : Value → Shared → Prop} (X : St R B F μ s) (ha : a.length ≤ 1000) (hb : b.length ≤ 1000) (hk : k.natAbs < 10 ^ 3)
    (hn : ∀ (Q : Value → Shared → Prop) s, St R B F μ s → Q (.int k t) s → wpAny (model prog w) A (eval (.Name n p) env) Q E s)
    (h : ∀ x t s', St R B F μ s' → Q (.str x t) s') : wpAny (model prog w) A (eval (.JoinedStr [.Constant (.str a) k0 p0, .FormattedValue (.Name n p) 114 none p1, .Constant (.str b) k1 p2] pos) env) Q E s := by
  have hz := int_text_length_le10 (k := 3) (by decide) hk
  refine wpAny_JoinedStr ?_
  have X1 := X.toks (s.toks + 1)
  have hz2 : (Str.ofString (toString k)).length ≤ 4 := by rw [PySem.ofString_length]; exact hz
  have hlg : k.natAbs.log2 < 1920 := by
    by_cases h0 : k.natAbs = 0
    · rw [h0]; decide
    · exact (Nat.log2_lt h0).mpr (Nat.lt_of_lt_of_le hk (Nat.le_trans (by decide : 10 ^ 3 ≤ 2 ^ 10) (Nat.pow_le_pow_right (by decide) (by decide))))
  have he : Str.empty.length = 0 := rfl
  refine wpAny_Constant_str ⟨a, _, rfl, ?_, ?_⟩
  · rw [strLen_append, sizeLine_eq]; (first | lia | omega)
  refine wpAny_FormattedValue_repr (hn _ _ X1 ?_)
  refine pyReprObj_int hlg ?_
  refine formatField_str (fun t' tk => ⟨_, t', rfl, ?_, ?_⟩) (by rw [sizeLine_eq]; (first | lia | omega))
  · rw [strLen_append, strLen_append, sizeLine_eq]; (first | lia | omega)
  refine wpAny_Constant_str ⟨b, _, rfl, ?_, ?_⟩
  · rw [strLen_append, strLen_append, strLen_append, sizeLine_eq]; (first | lia | omega)
  refine ⟨?_, h _ _ _ ?_⟩
  · rw [strLen_append, strLen_append, strLen_append, sizeLine_eq]; (first | lia | omega)
  · exact X1.toks _

theorem raise_x {x : Str} {np cpos pos : Pos} {e₀ : Expr} {l : List Env} {Q : Flow → Shared → Prop} (hB : Base K B) (hh : A.handled = none) (hl : FrF l F) (X : St R B F μ s)
    (hx : env.kindOf x = some .globalImplicit) (e : nsIn K mainGlobals x = some none) (hv : bootBuiltins x = some (.type "ValueError")) (hn : x ≠ "__name__")
    (h0 : ∀ (Q : Value → Shared → Prop), (∀ v s', St R B F μ s' → Q v s') → wpAny (model prog w) A (eval e₀ env) Q E s)
    (hE : ∀ e s', Exc0 R B F μ l e (.type "ValueError") s' → E (.ref e) s')
    (hg : env.globals = mainGlobals := by rfl) (hb : env.builtins = builtinsNs := by rfl) (hk : env.scope.kind = .function := by rfl) (hd : (x == ("__debug__" : Str)) = false := by decide)
    (he : starEach [e₀] env = (false, eval e₀ env) :: starEach [] env := by rfl) :
    wpAny (model prog w) A (exec (.Raise (some (.Call (.Name x np) [e₀] [] cpos)) none pos) env) Q E s := by
  refine Raise_madeB PySem.F.excCall_ValueError PySem.F.excRaise_ValueError hh (name_b hx hB X e hv hn ⟨rfl, ?_⟩ hg hb hk hd) he
  refine spliced_more (h0 _ fun v s' X' => ?_) he
  refine spliced_none ⟨by rw [sizeLine_eq]; simp, fun h' a hm => hE a _ ?_⟩
  obtain ⟨t, ht, _, _⟩ := hm.there
  exact exc0_of (tk := s'.toks) X' hl hm.keeps hm.new ⟨_, _, _, ht, rfl, rfl, rfl, rfl⟩
end
end text_LyS
section text_LyT
set_option maxRecDepth 100000
set_option maxHeartbeats 1000000
open Sem (wp)

namespace Nx
theorem ga : Slot "list_iterator" "__getattribute__" "object.__getattribute__" := .of (owner := "object") (n := "__getattribute__") (by rw [typeLookup_type, builtinLookup_eq_fast]; kernel_rfl) (by decide +kernel) (by decide +kernel) (by decide +kernel)
    (by first | exact .inl (by decide +kernel) | exact .inr (by decide +kernel)) (by rw [isSubtype_type]; kernel_rfl)
theorem entry_ga : entryFor table "object.__getattribute__" = some Builtin.«object.__getattribute__» := entryFor_of_tree (by kernel_rfl)
theorem args_ga (a b : Value) : argsOk "object.__getattribute__" ⟨[a, b], []⟩ := by unfold argsOk; kernel_rfl
theorem ty : typeOf (.builtin "list_iterator.__next__") = pure (.type "wrapper_descriptor") := by kernel_rfl
theorem wd_get : Slot "wrapper_descriptor" "__get__" "wrapper_descriptor.__get__" := .of (owner := "wrapper_descriptor") (n := "__get__") (by rw [typeLookup_type, builtinLookup_eq_fast]; kernel_rfl) (by decide +kernel) (by decide +kernel) (by decide +kernel)
    (by first | exact .inl (by decide +kernel) | exact .inr (by decide +kernel)) (by rw [isSubtype_type]; kernel_rfl)
theorem entry_get : entryFor table "wrapper_descriptor.__get__" = some Builtin.«wrapper_descriptor.__get__» := entryFor_of_tree (by kernel_rfl)
theorem args_get (a b c : Value) : argsOk "wrapper_descriptor.__get__" ⟨[a, b, c], []⟩ := by unfold argsOk; kernel_rfl
theorem no_set : typeLookup (.type "wrapper_descriptor") "__set__" = pure none := by rw [typeLookup_type, builtinLookup_eq_fast]; kernel_rfl
theorem no_delete : typeLookup (.type "wrapper_descriptor") "__delete__" = pure none := by rw [typeLookup_type, builtinLookup_eq_fast]; kernel_rfl
theorem no_getattr : typeLookup (.type "list_iterator") "__getattr__" = pure none := by rw [typeLookup_type, builtinLookup_eq_fast]; kernel_rfl
theorem lk : typeLookup (.type "list_iterator") "__next__" = pure (some (.builtin "list_iterator.__next__")) := by rw [typeLookup_type, builtinLookup_eq_fast]; kernel_rfl
theorem sub : isSubtype (.type "list_iterator") (.type "list_iterator") = pure true := by rw [isSubtype_type]; kernel_rfl
theorem owner : (".".intercalate ("list_iterator.__next__".cutAt '.').dropLast) = "list_iterator" := by
  have e0 : "list_iterator.__next__".cutAt '.' = ["list_iterator", "__next__"] := by first | rfl | decide +kernel
  rw [e0]; decide +kernel
end Nx

section
variable {prog : Program} {w : World} {A : Around} {E : Value → Shared → Prop} {h : Heap} {g : Array GenState} {d : Drawn} {t : Nat} {os : OsState} {a : Addr} {o : Obj} {vs : Array Value}
noncomputable def mwObj (I : Addr) : Obj := { cls := .type "method-wrapper", data := .fields #[.builtin "list_iterator.__next__", .ref I] }

theorem nx_get {R : Result → Shared → Prop} (hx : h.get? a = some o) (hc : o.cls = .type "list_iterator") (hd : o.data = .fields vs) (hq : R (.ok (.ret (.ref h.objs.size))) ⟨h.push (mwObj a), g, d, t, os⟩) :
    codeAny (model prog w) A (.call (.builtin "wrapper_descriptor.__get__") ⟨[.builtin "list_iterator.__next__", .ref a, .type "list_iterator"], []⟩) R ⟨h, g, d, t, os⟩ := by
  have hT : (⟨h, g, d, t, os⟩ : Shared).TypeIs (.ref a) "list_iterator" := ⟨_, hx, hc⟩
  have hT5 : (⟨h, g, d, t, os⟩ : Shared).TypeIs (.builtin "list_iterator.__next__") "wrapper_descriptor" := Nx.ty
  have f8 : isSubtype (.type "list_iterator") (.type (".".intercalate ("list_iterator.__next__".cutAt '.').dropLast)) = pure true := by rw [Nx.owner]; exact Nx.sub
  refine codeAny_call_builtin Nx.wd_get.plain Nx.entry_get (Nx.wd_get.check _ _ _ _ _ _ _ _ hT5 (Nx.args_get _ _ _) ?_)
  repeat (any_goals (first | assumption | wp_step))
theorem nx_entry {tk : Tok} {Q : Fin → Shared → Prop} (hx : h.get? a = some { cls := .type "list_iterator", data := .fields vs }) (hq : Q (.done (.ret (.ref h.objs.size))) ⟨h.push (mwObj a), g, d, t, os⟩) :
    wpAny (model prog w) A (Builtin.«object.__getattribute__» ⟨[.ref a, .str "__next__" tk], []⟩) Q E ⟨h, g, d, t, os⟩ := by
  have hT : (⟨h, g, d, t, os⟩ : Shared).TypeIs (.ref a) "list_iterator" := ⟨_, hx, rfl⟩
  have hT5 : (⟨h, g, d, t, os⟩ : Shared).TypeIs (.builtin "list_iterator.__next__") "wrapper_descriptor" := Nx.ty
  have f4 := Nx.lk
  have f5 := Nx.ty
  have f6 := Nx.wd_get.lookup
  have f7 := Nx.no_set
  have f8 := Nx.no_delete
  repeat (any_goals (first | assumption | wp_step))
  refine nx_get hx rfl rfl ?_
  repeat (any_goals (first | assumption | wp_step))
theorem nx_call {tk : Tok} {R : Result → Shared → Prop} (hx : h.get? a = some { cls := .type "list_iterator", data := .fields vs }) (hq : R (.ok (.ret (.ref h.objs.size))) ⟨h.push (mwObj a), g, d, t, os⟩) :
    codeAny (model prog w) A (.call (.builtin "object.__getattribute__") ⟨[.ref a, .str "__next__" tk], []⟩) R ⟨h, g, d, t, os⟩ :=
  codeAny_call_builtin Nx.ga.plain Nx.entry_ga (Nx.ga.check _ _ _ _ _ _ _ _ (show (⟨h, g, d, t, os⟩ : Shared).TypeIs (.ref a) "list_iterator" from ⟨_, hx, rfl⟩) (Nx.args_ga _ _) (nx_entry hx hq))
theorem nx_by {tk : Tok} {fill expr : Bool} {Q : Value → Shared → Prop} (hx : h.get? a = some { cls := .type "list_iterator", data := .fields vs })
    (hq : Q (.ref h.objs.size) ⟨h.push (mwObj a), g, d, t, os⟩) : wpAny (model prog w) A (getAttrBy (.ref a) (.str "__next__" tk) fill expr) Q E ⟨h, g, d, t, os⟩ := by
  have hT : (⟨h, g, d, t, os⟩ : Shared).TypeIs (.ref a) "list_iterator" := ⟨_, hx, rfl⟩
  have f2 := Nx.ga.lookup
  have f3 := Nx.ga.bind (.ref a)
  have hx0 : (expr && onTheHeap (Value.builtin "object.__getattribute__")) = false := by cases expr <;> rfl
  repeat (any_goals (first | assumption | wp_step))
  refine nx_call hx ?_
  repeat (any_goals (first | assumption | wp_step))
theorem nx_attr {expr : Bool} {Q : Value → Shared → Prop} (hx : h.get? a = some { cls := .type "list_iterator", data := .fields vs })
    (hq : Q (.ref h.objs.size) ⟨h.push (mwObj a), g, d, t + 1, os⟩) : wpAny (model prog w) A (getAttr (.ref a) "__next__" expr) Q E ⟨h, g, d, t, os⟩ := by
  unfold getAttr
  repeat (any_goals (first | assumption | with_reducible apply nx_by hx | wp_step))
end
end text_LyT
section text_LyU
set_option maxRecDepth 100000
set_option maxHeartbeats 1000000

noncomputable def LIt (l : Addr) (i : Nat) : Obj → Prop := fun o => o = { cls := .type "list_iterator", data := .fields #[.ref l, .int i 0] }
namespace Nx
theorem check (a : Addr) : checkBoundCall "list_iterator.__next__" ⟨[.ref a], []⟩ = pure () := by first | kernel_rfl | rfl
theorem quiet (args : Args) : Code.quiet (.builtin "list_iterator.__next__" args) = true := Code.quiet_builtin _ (by decide +kernel)
end Nx

section
variable {prog : Program} {w : World} {A : Around} {E : Value → Shared → Prop} {s : Shared} {env : Env} {R : Shared} {B B' : BM} {F : List (Addr × NM)} {μ μ' : Led} {L I u l : Addr} {m m' : NM} {K : Frag} {i : Nat}
theorem iter_x {vs : List Value} {c : Nat} {Q : Value → Shared → Prop} (X : St R B F μ s) (hl : B l = some (listOf vs.toArray c)) (h : ∀ I s', St R B F ((I, LIt l 0) :: μ) s' → Q (.ref I) s') : wpAny (model prog w) A (call (.builtin "iter") [.ref l]) Q E s := by
  have e := X.keep _ _ hl
  refine call_function_entry (by decide +kernel) (by decide +kernel) kdk_entry_iter (kdk_args_iter _) ?_
  unfold Builtin.«iter»
  refine wpAny_bind (m := someArgs "iter" 1 2 _) (wpAny_of_eq (a := [Value.ref l]) (by first | rfl | kernel_rfl!) ?_)
  show wpAny _ _ (pyIter (.ref l) >>= _) _ _ _
  refine wpAny_bind (wpAny_pyIter_list (isList_of e) ?_)
  exact wpAny_pure ⟨_, rfl, h _ _ (X.new (tk := s.toks) rfl)⟩
theorem next_attr {expr : Bool} {Q : Value → Shared → Prop} (X : St R B F μ s) (hI : (I, LIt l i) ∈ μ) (h : ∀ B' u s', Sub B B' → B' u = some (mwObj I) → St R B' F μ s' → Q (.ref u) s') : wpAny (model prog w) A (getAttr (.ref I) "__next__" expr) Q E s := by
  obtain ⟨o, ho, rfl⟩ := X.get hI
  have Y := X.new (tk := s.toks + 1) (o := mwObj I) (P := ItP (mwObj I)) rfl
  obtain ⟨B', hs, ⟨_, hu, rfl⟩, _, Y⟩ := Y.freeze
  obtain ⟨hp, g, d, tk, os⟩ := s
  exact nx_attr ho (h B' _ _ hs hu Y)
theorem mw_cw0 {pos : Pos} {first : List Value} {Q : Value → Shared → Prop} (X : St R B F μ s) (hu : B u = some (mwObj I)) (h : wpAny (model prog w) A (call (.ref u) (first ++ [])) Q E s) : wpAny (model prog w) A (callWith pos (.ref u) first (backTo pos (starEach [] env)) []) Q E s := by
  have ho := X.keep _ _ hu
  unfold callWith
  refine wpAny_bind (wpAny_holding (evalArgs_nil3 (wpAny_bind (wpAny_standAt ?_))))
  refine wpAny_bind (m := keeperOf (.ref u)) ?_
  unfold keeperOf
  refine wpAny_bind (wpAny_load ho ?_)
  simp only [mwObj, show (Value.type "method-wrapper" != Value.type "method") = true by decide, show (Value.type "method-wrapper" == Value.type "builtin_function_or_method" || Value.type "method-wrapper" == Value.type "method-wrapper") = true by decide, if_true]
  refine wpAny_pure ?_
  exact wpAny_bind (wpAny_mono h (fun r s₂ hr => wpAny_bind (wpAny_holding (wpAny_point (wpAny_pure hr)))) fun _ _ x => x)
theorem mw_item {vs : List Value} {c : Nat} {v : Value} {Q : Value → Shared → Prop} (X : St R B F μ s) (hu : B u = some (mwObj I)) (U : Set1 I (LIt l i) (LIt l (i + 1)) μ μ') (hl : B l = some (listOf vs.toArray c)) (hv : vs[i]? = some v)
    (h : ∀ s', St R B F μ' s' → Q v s') : wpAny (model prog w) A (call (.ref u) []) Q E s := by
  have ho := X.keep _ _ hu
  obtain ⟨oi, hoi, rfl⟩ := X.get U.mem
  have hol := X.keep _ _ hl
  refine wpAny_call (codeAny_of_tree ?_)
  show wpAny _ A.in1 (callAny (.ref u) ⟨[], []⟩) _ _ s
  simp only [callAny]
  refine wpAny_bind (wpAny_load ho ?_)
  simp only [mwObj, show (Value.type "method-wrapper" == Value.type "method" || Value.type "method-wrapper" == Value.type "builtin_function_or_method" || Value.type "method-wrapper" == Value.type "method-wrapper") = true by decide, if_true]
  refine KFB.if_so (by decide) ?_
  refine wpAny_bind (wpAny_of_eq (a := ()) (Nx.check I) ?_)
  refine wpAny_bind (wpAny_pure (wpAny_pure ?_))
  refine ⟨Nx.quiet _, codeAny_builtin entry_listiter_next ?_⟩
  show wpAny _ _ (field (.ref I) 0 >>= _) _ _ s
  refine wpAny_bind (wpAny_field hoi rfl (x := .ref l) rfl ?_)
  show wpAny _ _ (if (Value.ref l == Value.none) = true then _ else _) _ _ s
  rw [if_neg (show ¬ ((Value.ref l == Value.none) = true) from Bool.false_ne_true)]
  show wpAny _ _ (field (.ref I) 1 >>= _) _ _ s
  refine wpAny_bind (wpAny_field hoi rfl (x := .int i 0) rfl ?_)
  show wpAny _ _ (seqItems? (.ref l) >>= _) _ _ s
  refine wpAny_bind (wpAny_seqItems hol rfl ?_)
  simp only [Int.toNat_natCast, List.getElem?_toArray, hv]
  refine wpAny_bind (wpAny_setField hoi rfl (by simp) (wpAny_pure (h _ (X.set1 (tk := s.toks) U (Heap.SameBut.update ..) ⟨_, Heap.get?_update_self _ hoi rfl, ?_⟩))))
  show _ = _
  simp [Obj.mapFields, rawInt]
theorem mw_end {vs : List Value} {c : Nat} {le : List Env} {Q : Value → Shared → Prop} (hA : A.handled = none) (hF : FrF le F) (X : St R B F ((I, LIt l i) :: μ) s) (hu : B u = some (mwObj I)) (hl : B l = some (listOf vs.toArray c)) (hv : vs[i]? = none)
    (h : ∀ e s', Exc0 R B F μ le e (.type "StopIteration") s' → E (.ref e) s') : wpAny (model prog w) A (call (.ref u) []) Q E s := by
  have ho := X.keep _ _ hu
  obtain ⟨oi, hoi, rfl⟩ := X.get (.head _)
  have hol := X.keep _ _ hl
  refine wpAny_call (codeAny_of_tree ?_)
  show wpAny _ A.in1 (callAny (.ref u) ⟨[], []⟩) _ _ s
  simp only [callAny]
  refine wpAny_bind (wpAny_load ho ?_)
  simp only [mwObj, show (Value.type "method-wrapper" == Value.type "method" || Value.type "method-wrapper" == Value.type "builtin_function_or_method" || Value.type "method-wrapper" == Value.type "method-wrapper") = true by decide, if_true]
  refine KFB.if_so (by decide) ?_
  refine wpAny_bind (wpAny_of_eq (a := ()) (Nx.check I) ?_)
  refine wpAny_bind (wpAny_pure (wpAny_pure ?_))
  refine ⟨Nx.quiet _, codeAny_builtin entry_listiter_next ?_⟩
  show wpAny _ _ (field (.ref I) 0 >>= _) _ _ s
  refine wpAny_bind (wpAny_field hoi rfl (x := .ref l) rfl ?_)
  show wpAny _ _ (if (Value.ref l == Value.none) = true then _ else _) _ _ s
  rw [if_neg (show ¬ ((Value.ref l == Value.none) = true) from Bool.false_ne_true)]
  show wpAny _ _ (field (.ref I) 1 >>= _) _ _ s
  refine wpAny_bind (wpAny_field hoi rfl (x := .int i 0) rfl ?_)
  show wpAny _ _ (seqItems? (.ref l) >>= _) _ _ s
  refine wpAny_bind (wpAny_seqItems hol rfl ?_)
  simp only [Int.toNat_natCast, List.getElem?_toArray, hv]
  refine wpAny_bind (wpAny_rule (wpAny_bind (wpAny_setField hoi rfl (by simp) ?_)))
  have Y := X.ext1 (P' := fun _ => True) (h' := s.heap.update I (Obj.mapFields (·.setIfInBounds 0 .none))) (tk := s.toks) (fun b o hb e => by rw [(Heap.SameBut.update s.heap I _).2 b hb]; exact e) ⟨_, Heap.get?_update_self _ hoi rfl, trivial⟩
  have Y := Y.drop1
  generalize s.heap.update I (Obj.mapFields (·.setIfInBounds 0 .none)) = h1 at Y ⊢
  show wpAny _ _ (newExc (.type "StopIteration") [] >>= _) _ _ _
  refine wpAny_bind ?_
  simp only [newExc, newTuple]
  refine wpAny_bind (wpAny_newObj_type ?_ (by size_fits))
  refine wpAny_bind (m := firstArgMember _ _) (wpAny_of_eq (a := Value.none) (by first | rfl | (simp only [firstArgMember]; rfl)) ?_)
  refine wpAny_newObj_type ?_ (by size_fits)
  simp only [raiseNew]
  refine wpAny_bind (wpAny_handled ?_)
  have hA2 : (A.under (Code.builtin "list_iterator.__next__" { pos := [#[Value.builtin "list_iterator.__next__", Value.ref I][1]] })).handled = none := hA
  rw [hA2]
  refine wpAny_bind (wpAny_pure (wpAny_throw ?_))
  refine h _ _ (exc0_of (tk := s.toks) Y hF (fun b o e => Heap.get?_push_of_some _ (Heap.get?_push_of_some _ e)) (Heap.get?_none_of_le (by rw [Heap.size_push]; exact Nat.le_succ _)) ⟨_, _, .ref h1.objs.size, Heap.get?_push_size _ rfl, rfl, rfl, by simp [Array.getElem?_append], by simp [Array.getElem?_append]⟩)
end
end text_LyU
section text_LyV
set_option maxRecDepth 100000
set_option maxHeartbeats 1000000

namespace Nx
theorem stop_exc : isSubtype (.type "StopIteration") (.type "BaseException") = pure true := by rw [isSubtype_type]; kernel_rfl
theorem stop_self : isSubtype (.type "StopIteration") (.type "StopIteration") = pure true := by rw [isSubtype_type]; kernel_rfl
theorem stop_nt : isSubtype (.type ((Manifest.find? "StopIteration").elim "type" fun x => x.metatype)) (.type "tuple") = pure false := by
  rw [show ((Manifest.find? "StopIteration").elim "type" fun x => x.metatype) = "type" from by kernel_rfl, isSubtype_type]; kernel_rfl
theorem val_exc : isSubtype (.type "ValueError") (.type "BaseException") = pure true := by rw [isSubtype_type]; kernel_rfl
theorem val_self : isSubtype (.type "ValueError") (.type "ValueError") = pure true := by rw [isSubtype_type]; kernel_rfl
theorem val_nt : isSubtype (.type ((Manifest.find? "ValueError").elim "type" fun x => x.metatype)) (.type "tuple") = pure false := by
  rw [show ((Manifest.find? "ValueError").elim "type" fun x => x.metatype) = "type" from by kernel_rfl, isSubtype_type]; kernel_rfl
end Nx

section
variable {prog : Program} {w : World} {A : Around} {E : Value → Shared → Prop} {s : Shared} {env : Env} {R : Shared} {B B' : BM} {F : List (Addr × NM)} {μ μ' : Led} {L I u l : Addr} {m m' : NM} {K : Frag} {i : Nat}
variable {α : Type} {rel : α → Value → Prop} {xs : List α} {x : α} {a : Addr} {t : Tok}
theorem get_last {value slice : Expr} {Q : Value → Shared → Prop} (X : St R B F μ s) (hl : LAt B μ a rel (xs ++ [x])) (hz : xs.length ≤ 1000) (h : ∀ v, rel x v → Q v s)
    (hs : subscripted slice false (.ref a) (.int (-1) t) = operate [.ref a, .int (-1) t] (getItem (.ref a) (.int (-1) t)) := by with_unfolding_all rfl) :
    wpAny (model prog w) A (subscriptTail value slice (.ref a) (.int (-1) t)) Q E s := by
  obtain ⟨vs, n, r, e⟩ := X.lst hl
  have hlen := r.length
  simp only [List.length_append, List.length_cons, List.length_nil] at hlen
  obtain ⟨v, hv, q⟩ := r.get (i := xs.length) (x := x) (by simp)
  refine tail_any (isList_of e).typeIs slot_list_getitem.lookup (wpAny_getItem_list_neg (isList_of e) (by decide) (by rw [List.size_toArray]; (first | lia | omega)) (by decide) (x := v) ?_ (h v q)) hs
  rw [List.size_toArray, show ((-1 : Int) + (vs.length : Nat)).toNat = xs.length by (first | lia | omega)]
  simpa using hv

noncomputable def unseen (keys : List Int) (sn : Int → Bool) (f : Int → Nat) : Nat := (keys.map fun k => if sn k then 0 else f k).sum
theorem unseen_add {sn : Int → Bool} {f : Int → Nat} {k : Int} (hs : sn k = false) : ∀ {keys : List Int}, keys.Nodup → k ∈ keys → unseen keys (fun x => sn x || decide (x = k)) f + f k = unseen keys sn f
  | [], _, h => by simp at h
  | a :: keys, nd, h => by
    simp only [List.nodup_cons] at nd
    by_cases e : a = k
    · subst e
      have h2 : keys.map (fun x => if (sn x || decide (x = a)) = true then 0 else f x) = keys.map (fun x => if sn x = true then 0 else f x) := by
        refine List.map_congr_left fun x hx => ?_
        have : x ≠ a := fun e => nd.1 (e ▸ hx)
        simp [this]
      simp only [unseen, List.map_cons, List.sum_cons]
      rw [h2]
      simp [hs]; (first | lia | omega)
    · have hk : k ∈ keys := by
        rcases List.mem_cons.mp h with q | q
        · exact absurd q.symm e
        · exact q
      have ih := unseen_add hs nd.2 hk (f := f)
      simp only [unseen, List.map_cons, List.sum_cons] at ih ⊢
      simp only [e, decide_false, Bool.or_false]
      (first | lia | omega)
end
end text_LyV
section text_LyW
set_option maxRecDepth 100000
set_option maxHeartbeats 1000000
open Sem (wp)
namespace Ob
theorem mro : mroOf (.type "object") = pure [.type "object"] := by rw [mroOf_type]; kernel_rfl
theorem lk_new : typeLookup (.type "object") "__new__" = pure (some (.builtin "object.__new__")) := by rw [typeLookup_type, builtinLookup_eq_fast]; kernel_rfl
theorem sub : isSubtype (.type "object") (.type "object") = pure true := by rw [isSubtype_type]; kernel_rfl
theorem isT : isType (.type "object") = pure true := by first | rfl | kernel_rfl | (unfold isType; rw [isSubtype_type]; kernel_rfl)
theorem slot_init : Slot "object" "__init__" "object.__init__" := .of (owner := "object") (n := "__init__") (by rw [typeLookup_type, builtinLookup_eq_fast]; kernel_rfl) (by decide +kernel) (by decide +kernel) (by decide +kernel)
    (by first | exact .inl (by decide +kernel) | exact .inr (by decide +kernel)) (by rw [isSubtype_type]; kernel_rfl)
theorem called : TypeCalled "object" "object.__new__" "object.__init__" :=
  ⟨by decide +kernel, by decide +kernel, ⟨_, _, mro⟩, madeBy_type mro lk_new (by decide +kernel), by decide +kernel, sub, slot_init⟩
theorem tc : checkTypeCall "object" ⟨[], []⟩ = pure () := by kernel_rfl
theorem nc : checkBuiltinCall "object.__new__" ⟨[.type "object"], []⟩ = pure () := by kernel_rfl
theorem ia (a : Value) : argsOk "object.__init__" ⟨[a], []⟩ := by unfold argsOk; kernel_rfl
theorem made : Bind.madeHere "object.__new__" (.type "object") = pure () := by kernel_rfl
theorem new_meets : Meets (Builtin.«object.__new__» ⟨[.type "object"], []⟩) (fun _ R s => R (.ok (.ret (.ref s.heap.objs.size))) { s with heap := s.heap.push { cls := .type "object", data := .plain } }) :=
  Meets.of_wp fun prog w A R s hs => by
    obtain ⟨hp, g, d, tk, os⟩ := s
    have f1 := isT
    have f2 := made
    unfold Builtin.«object.__new__»
    repeat (any_goals (first | assumption | wp_step))
    all_goals exact ⟨_, rfl, hs⟩
theorem init_meets (a : Value) : Meets (Builtin.«object.__init__» ⟨[a], []⟩) (fun _ R s => R (.ok (.ret .none)) s) :=
  Meets.of_wp fun prog w A R s hs => wpAny_pure ⟨_, rfl, hs⟩
end Ob

section
variable {prog : Program} {w : World} {A : Around} {E : Value → Shared → Prop} {s : Shared} {env : Env} {R : Shared} {B B' : BM} {F : List (Addr × NM)} {μ μ' : Led} {L I u l : Addr} {m m' : NM} {K : Frag} {i : Nat}
theorem object_x {Q : Value → Shared → Prop} (X : St R B F μ s) (h : ∀ a s', St R B F ((a, fun o => o = { cls := .type "object", data := .plain }) :: μ) s' → Q (.ref a) s') : wpAny (model prog w) A (call (.type "object") []) Q E s := by
  refine callType_meets Ob.called Ob.tc Ob.nc PySem.F.entry_object_new PySem.F.entry_object_init Ob.new_meets (Q₁ := fun obj s₁ => s₁.TypeIs obj "object" ∧ Q obj s₁) ?_ fun obj s₁ hq => ⟨hq.1, Ob.ia _, _, Ob.init_meets _, rfl, hq.2⟩
  exact ⟨⟨_, Heap.get?_push_size _ rfl, rfl⟩, h _ _ (X.new (tk := s.toks) rfl)⟩
theorem iter_g {v : Value} {Q : Value → Shared → Prop} (h : wpAny (model prog w) A.in1 (pyIter v) Q E s) : wpAny (model prog w) A (call (.builtin "iter") [v]) Q E s := by
  refine call_function_entry (by decide +kernel) (by decide +kernel) kdk_entry_iter (kdk_args_iter _) ?_
  unfold Builtin.«iter»
  refine wpAny_bind (m := someArgs "iter" 1 2 _) (wpAny_of_eq (a := [v]) (by first | rfl | kernel_rfl!) ?_)
  show wpAny _ _ (pyIter v >>= _) _ _ _
  exact wpAny_bind (wpAny_mono h (fun x s' hq => wpAny_pure ⟨_, rfl, hq⟩) fun _ _ e => e)
end
end text_LyW
section text_LyX
set_option maxRecDepth 100000
set_option maxHeartbeats 1000000

section
variable {prog : Program} {w : World} {A : Around} {E : Value → Shared → Prop} {s : Shared} {env : Env} {R : Shared} {B B' : BM} {F : List (Addr × NM)} {μ μ' : Led} {L I u l x C dx q f : Addr} {m m' : NM} {K : Frag} {P : Obj → Prop} {name : Str} {self : Value} {pos : Pos}
theorem meth_attr {expr : Bool} {Q : Value → Shared → Prop} (hB : Base K B) (X : St R B F μ s) (hx : B x = some (instObj C dx)) (hd : (dx, P) ∈ μ) (hP : ∀ o, P o → ∃ k m, NsO k m o ∧ m name = none)
    (hga : findIn K (.ref C) "__getattribute__" = some (some (.builtin "object.__getattribute__"))) (hk : findIn K (.ref C) "__getattr__" = some none) (hh : hasDictIn K C = true) (hf : findIn K (.ref C) name = some (some (.ref f))) (ht : typeIn K (.ref f) = some (.type "function"))
    (hg : specialIn K (.ref f) "__get__" = some (some (.builtin "function.__get__"))) (hts : takesIn K (.ref f) = some false) (hc : copiedNames.contains name = false)
    (h : ∀ B' q s', Sub B B' → Base K B' → B' q = some (methodObj (.ref f) (.ref x)) → St R B' F μ s' → Q (.ref q) s') : wpAny (model prog w) A (getAttr (.ref x) name expr) Q E s := by
  obtain ⟨od, hod, hPo⟩ := X.get hd
  obtain ⟨k, m, hN, hn⟩ := hP od hPo
  have I : InstAt s.heap x (instObj C dx) C (some od) := ⟨X.keep _ _ hx, rfl, rfl, hod⟩
  have KX := hB.inH X
  have Y := X.new (tk := s.toks + 1) (o := methodObj (.ref f) (.ref x)) (P := ItP (methodObj (.ref f) (.ref x))) rfl
  obtain ⟨B', hs, ⟨_, hu, rfl⟩, _, Y⟩ := Y.freeze
  have hl : lookIn name od = some none := by rw [hN.look, hn]
  refine get_bind KX I hga (findObj_fn hh hf hg hts hc hl) hk (wpAny_call (fn_get (s := { s with toks := s.toks + 1 }) KX ht ?_))
  exact handed_on rfl (h B' _ _ hs (hB.sub hs) hu Y)
theorem cw_meS {e : Expr} {rest : List Expr} {first : List Value} {Q : Value → Shared → Prop} (hf : fnIn K f = true)
    (h : wpAny (model prog w) A (spliced (backTo pos (starEach (e :: rest) env))) (fun vs s₁ => MethP K q f self s₁.heap ∧ wpAny (model prog w) A (call (.ref q) (first ++ vs)) Q E s₁) E s)
    (he : starEach (e :: rest) env = (false, eval e env) :: starEach rest env := by rfl) (hst : (backTo pos (starEach rest env)).any (·.1) = true := by rfl) :
    wpAny (model prog w) A (callWith pos (.ref q) first (backTo pos (starEach (e :: rest) env)) []) Q E s := by
  rw [he] at h ⊢
  exact ks_call (by show (false || (backTo pos (starEach rest env)).any (·.1)) = true; rw [hst]; rfl) (keeps_M hf) (evalArgs_plain h)
theorem cw_meS1 {e : Expr} {p : Pos} {first : List Value} {Q : Value → Shared → Prop} (hf : fnIn K f = true)
    (h : wpAny (model prog w) A (eval e env) (fun v s₁ => StarOf (model prog w) A E v (fun vs s₂ => MethP K q f self s₂.heap ∧ wpAny (model prog w) A (call (.ref q) (first ++ vs)) Q E s₂) s₁) E s)
    (he : starEach [.Starred e p] env = [(true, eval e env)] := by rfl) :
    wpAny (model prog w) A (callWith pos (.ref q) first (backTo pos (starEach [.Starred e p] env)) []) Q E s := by
  rw [he]
  exact ks_call rfl (keeps_M hf) (ks_lone h)
theorem MethodCallS_ {M : Model} {o : Expr} {name : Str} {apos pos : Pos} {args : List Expr} {Q : Value → Shared → Prop}
    (h : wpAny M A (eval o env) (fun ov s₁ => wpAny M A (getAttr ov name true) (fun f s₂ => wpAny M A (callWith pos f [] (backTo pos (starEach args env)) []) Q E s₂) E s₁) E s)
    (he : eval (.Call (.Attribute o name apos) args [] pos) env = (do
      let ov ← eval o env
      standAt apos.atName
      let (f, first) ← holding [ov] (do pure (← getAttr ov name true, ([] : List Value)))
      callWith pos f first (backTo pos (starEach args env)) []) := by rfl) :
    wpAny M A (eval (.Call (.Attribute o name apos) args [] pos) env) Q E s := by
  rw [he]
  refine wpAny_bind (wpAny_mono h (fun ov s₁ h₁ => wpAny_bind (wpAny_standAt (wpAny_bind (wpAny_holding (wpAny_bind (wpAny_mono h₁ (fun fx s₂ h₂ => wpAny_pure ?_) fun _ _ x => x)))))) fun _ _ x => x)
  exact h₂
theorem methP_x (hB : Base K B) (X : St R B F μ s) (hq : B q = some (methodObj (.ref f) self)) : MethP K q f self s.heap := ⟨X.keep _ _ hq, hB.inH X⟩
end
end text_LyX
section text_Pu
set_option maxRecDepth 100000

noncomputable def sdF : Nat → List (Int × Int) → Nat → Int × Int → List (Int × Int)
  | 0, ks, _, x => ks.set 0 x
  | f + 1, ks, pos, x => if pos = 0 then ks.set 0 x
    else if ltP x (ks.getD ((pos - 1) / 2) (0, 0)) then sdF f (ks.set pos (ks.getD ((pos - 1) / 2) (0, 0))) ((pos - 1) / 2) x
    else ks.set pos x
noncomputable def sdK (ks : List (Int × Int)) (pos : Nat) (x : Int × Int) : List (Int × Int) := sdF pos ks pos x
theorem sdF_more : ∀ (f g : Nat) (ks : List (Int × Int)) (pos : Nat) (x : Int × Int), pos ≤ f → pos ≤ g → sdF f ks pos x = sdF g ks pos x
  | 0, 0, _, _, _, _, _ => rfl
  | 0, g + 1, ks, pos, x, h, _ => by
    obtain rfl := Nat.le_zero.mp h
    simp only [sdF, if_true]
  | f + 1, 0, ks, pos, x, _, h => by
    obtain rfl := Nat.le_zero.mp h
    simp only [sdF, if_true]
  | f + 1, g + 1, ks, pos, x, h, h' => by
    simp only [sdF]
    rw [sdF_more f g _ _ _ (by (first | lia | omega)) (by (first | lia | omega))]
theorem sdK_eq (ks : List (Int × Int)) (pos : Nat) (x : Int × Int) : sdK ks pos x = if h : pos = 0 then ks.set 0 x
    else if ltP x (ks.getD ((pos - 1) / 2) (0, 0)) then sdK (ks.set pos (ks.getD ((pos - 1) / 2) (0, 0))) ((pos - 1) / 2) x
    else ks.set pos x := by
  unfold sdK
  cases pos with
  | zero => rfl
  | succ n =>
    rw [dif_neg (by (first | lia | omega))]
    show (if n + 1 = 0 then _ else _) = _
    rw [if_neg (by (first | lia | omega)), sdF_more n ((n + 1 - 1) / 2) _ _ _ (by (first | lia | omega)) (by (first | lia | omega))]

noncomputable def suC (ks : List (Int × Int)) (pos : Nat) : Nat := if 2 * pos + 2 < ks.length ∧ ltP (ks.getD (2 * pos + 1) (0, 0)) (ks.getD (2 * pos + 2) (0, 0)) = false then 2 * pos + 2 else 2 * pos + 1
noncomputable def suF : Nat → List (Int × Int) → Nat → List (Int × Int) × Nat
  | 0, ks, pos => (ks, pos)
  | f + 1, ks, pos => if 2 * pos + 1 < ks.length then suF f (ks.set pos (ks.getD (suC ks pos) (0, 0))) (suC ks pos) else (ks, pos)
noncomputable def suK (ks : List (Int × Int)) (pos : Nat) : List (Int × Int) × Nat := suF (ks.length - pos) ks pos
theorem suC_gt (ks : List (Int × Int)) (pos : Nat) : pos < suC ks pos := by unfold suC; split <;> (first | lia | omega)
theorem suF_more : ∀ (f g : Nat) (ks : List (Int × Int)) (pos : Nat), ks.length - pos ≤ f → ks.length - pos ≤ g → suF f ks pos = suF g ks pos
  | 0, 0, _, _, _, _ => rfl
  | 0, g + 1, ks, pos, h, _ => by simp only [suF]; rw [if_neg (by (first | lia | omega))]
  | f + 1, 0, ks, pos, _, h => by simp only [suF]; rw [if_neg (by (first | lia | omega))]
  | f + 1, g + 1, ks, pos, h, h' => by
    have := suC_gt ks pos
    simp only [suF]
    rw [suF_more f g _ _ (by rw [List.length_set]; (first | lia | omega)) (by rw [List.length_set]; (first | lia | omega))]
theorem suK_eq (ks : List (Int × Int)) (pos : Nat) : suK ks pos = if h : 2 * pos + 1 < ks.length then suK (ks.set pos (ks.getD (suC ks pos) (0, 0))) (suC ks pos) else (ks, pos) := by
  have := suC_gt ks pos
  unfold suK
  rw [suF_more (ks.length - pos) (ks.length + 1) ks pos (by (first | lia | omega)) (by (first | lia | omega))]
  by_cases hc : 2 * pos + 1 < ks.length
  · rw [dif_pos hc, suF, if_pos hc, suF_more ks.length _ _ _ (by rw [List.length_set]; (first | lia | omega)) (Nat.le_refl _)]
  · rw [dif_neg hc, suF, if_neg hc]
noncomputable def siftupK (ks : List (Int × Int)) (x : Int × Int) : List (Int × Int) := sdK ((suK ks 0).1.set (suK ks 0).2 x) (suK ks 0).2 x
noncomputable def pushK (ks : List (Int × Int)) (x : Int × Int) : List (Int × Int) := sdK (ks ++ [x]) ks.length x
/-- the rest behind the least -/
noncomputable def popK (ks : List (Int × Int)) : List (Int × Int) := match ks.dropLast with
  | [] => []
  | _ :: r => siftupK (ks.getLastD (0, 0) :: r) (ks.getLastD (0, 0))

theorem getD_some {α : Type} {ks : List α} {d : α} {i : Nat} (h : i < ks.length) : ks[i]? = some (ks.getD i d) := by
  rw [List.getD_eq_getElem?_getD, List.getElem?_eq_getElem h]; rfl
theorem suC_lt {ks : List (Int × Int)} {pos : Nat} (h : 2 * pos + 1 < ks.length) : suC ks pos < ks.length ∧ pos < suC ks pos := by unfold suC; split <;> (first | lia | omega)
theorem suK_spec (ks : List (Int × Int)) (pos : Nat) (h : pos < ks.length) : (suK ks pos).1.length = ks.length ∧ (suK ks pos).2 < ks.length := by
  rw [suK_eq]
  split
  · rename_i hc
    have q := suC_lt hc
    have := suK_spec (ks.set pos (ks.getD (suC ks pos) (0, 0))) (suC ks pos) (by simpa using q.1)
    simpa using this
  · exact ⟨rfl, h⟩
termination_by ks.length - pos
decreasing_by simp only [List.length_set]; (first | lia | omega)
/-- the board of the moves that are there -/
noncomputable def tog (t : List (List Bool)) (x : Int × Int) : List (List Bool) := t.set x.1.toNat ((t.getD x.1.toNat []).set x.2.toNat (!((t.getD x.1.toNat []).getD x.2.toNat false)))
noncomputable def board0 : List (List Bool) := List.replicate 7 (List.replicate 7 false)
noncomputable def boardOf (ps : List (Int × Int)) : List (List Bool) := ps.foldl tog board0
noncomputable def rowOfBoard (t : List (List Bool)) (p : Nat) (n : Nat) : List Int := ((List.range n).filter fun q => (t.getD p []).getD q false).map Int.ofNat
theorem rowOfBoard_len (t : List (List Bool)) (p n : Nat) : (rowOfBoard t p n).length ≤ n := by
  unfold rowOfBoard
  have := List.length_filter_le (fun q => (t.getD p []).getD q false) (List.range n)
  simpa using this
theorem rowOfBoard_yes {t : List (List Bool)} {p j : Nat} (h : (t.getD p []).getD j false = true) : rowOfBoard t p (j + 1) = rowOfBoard t p j ++ [(j : Int)] := by
  unfold rowOfBoard
  rw [List.range_succ, List.filter_append, List.map_append, List.filter_cons, if_pos h]; rfl
theorem rowOfBoard_no {t : List (List Bool)} {p j : Nat} (h : ¬ (t.getD p []).getD j false = true) : rowOfBoard t p (j + 1) = rowOfBoard t p j := by
  unfold rowOfBoard
  rw [List.range_succ, List.filter_append, List.filter_cons, if_neg h]; simp
noncomputable def movesOf (t : List (List Bool)) : List (List Int) := (List.range 7).map fun p => rowOfBoard t p 7
noncomputable def Board (t : List (List Bool)) : Prop := t.length = 7 ∧ ∀ p, p < 7 → (t.getD p []).length = 7
theorem board0_ok : Board board0 := ⟨rfl, by decide⟩
theorem tog_ok {t : List (List Bool)} (h : Board t) (x : Int × Int) : Board (tog t x) := by
  refine ⟨by unfold tog; simp [h.1], fun p hp => ?_⟩
  unfold tog
  rw [List.getD_eq_getElem?_getD]
  by_cases e : x.1.toNat = p
  · rw [e, List.getElem?_set_self (by rw [h.1]; exact hp)]
    simp only [Option.getD_some, List.length_set]
    exact h.2 p hp
  · rw [List.getElem?_set_ne e, ← List.getD_eq_getElem?_getD]
    exact h.2 p hp
theorem boardOf_ok (ps : List (Int × Int)) : Board (boardOf ps) := by
  unfold boardOf
  suffices ∀ t, Board t → Board (ps.foldl tog t) from this _ board0_ok
  induction ps with
  | nil => exact fun t h => h
  | cons x r ih => exact fun t h => ih _ (tog_ok h x)

noncomputable def rowOf (ns : List Int) : List Int := (ns.take 63).map fun x => x.fmod 1000000
noncomputable def timeAt (row : List Int) (p : Nat) : Int := 1 + ((p : Int) + row.getD p 0).fmod 3
noncomputable def timesOf (ns : List Int) : List Int := (List.range 7).map fun p => timeAt (rowOf ns) p
noncomputable def pairs0 : List (Int × Int) := [(1, 6), (2, 1), (3, 2), (4, 1), (4, 3), (0, 0), (0, 5), (5, 4), (5, 0)]
noncomputable def pairOfX (x : Int) : Int × Int := ((x.fdiv 7).fmod 7, x.fmod 7)
noncomputable def pairsOf (ns : List Int) : List (Int × Int) := pairs0 ++ (rowOf ns).map pairOfX

noncomputable def lostAt (mv : List (List Int)) (ts : List Int) (W : List (List Bool)) (h p : Nat) : Bool :=
  decide (mv.getD p [] = []) || (decide ((h : Int) - ts.getD p 0 ≥ 0) && !decide (false ∈ (mv.getD p []).map fun q => (W.getD ((h : Int) - ts.getD p 0).toNat []).getD q.toNat false))
noncomputable def wonAt (mv : List (List Int)) (ts : List Int) (L : List (List Bool)) (h p : Nat) : Bool :=
  decide ((h : Int) - ts.getD p 0 ≥ 0) && decide (true ∈ (mv.getD p []).map fun q => (L.getD ((h : Int) - ts.getD p 0).toNat []).getD q.toNat false)
noncomputable def tabs (mv : List (List Int)) (ts : List Int) : Nat → List (List Bool) × List (List Bool)
  | 0 => ([], [])
  | h + 1 => ((tabs mv ts h).1 ++ [(List.range 7).map fun p => lostAt mv ts (tabs mv ts h).2 h p], (tabs mv ts h).2 ++ [(List.range 7).map fun p => wonAt mv ts (tabs mv ts h).1 h p])
noncomputable def hoursIn (T : List (List Bool)) (p n : Nat) : List Int := ((List.range n).filter fun h => (T.getD h []).getD p false).map Int.ofNat
theorem hoursIn_len (T : List (List Bool)) (p n : Nat) : (hoursIn T p n).length ≤ n := by
  unfold hoursIn
  have := List.length_filter_le (fun h => (T.getD h []).getD p false) (List.range n)
  simpa using this
theorem hoursIn_yes {T : List (List Bool)} {p j : Nat} (h : (T.getD j []).getD p false = true) : hoursIn T p (j + 1) = hoursIn T p j ++ [(j : Int)] := by
  unfold hoursIn
  rw [List.range_succ, List.filter_append, List.map_append, List.filter_cons, if_pos h]; rfl
theorem hoursIn_no {T : List (List Bool)} {p j : Nat} (h : ¬ (T.getD j []).getD p false = true) : hoursIn T p (j + 1) = hoursIn T p j := by
  unfold hoursIn
  rw [List.range_succ, List.filter_append, List.filter_cons, if_neg h]; simp
theorem tabs_len (mv : List (List Int)) (ts : List Int) : ∀ h, (tabs mv ts h).1.length = h ∧ (tabs mv ts h).2.length = h
  | 0 => ⟨rfl, rfl⟩
  | h + 1 => by simp only [tabs, List.length_append, List.length_cons, List.length_nil, (tabs_len mv ts h).1, (tabs_len mv ts h).2]; exact ⟨trivial, trivial⟩
theorem tabs_row (mv : List (List Int)) (ts : List Int) : ∀ h j, j < h → ((tabs mv ts h).1.getD j []).length = 7 ∧ ((tabs mv ts h).2.getD j []).length = 7
  | 0, j, hj => by (first | lia | omega)
  | h + 1, j, hj => by
    have l := tabs_len mv ts h
    by_cases e : j < h
    · have := tabs_row mv ts h j e
      simp only [tabs, List.getD_eq_getElem?_getD] at this ⊢
      rw [List.getElem?_append_left (by (first | lia | omega)), List.getElem?_append_left (by (first | lia | omega))]
      exact this
    · have e : j = h := by (first | lia | omega)
      subst e
      simp only [tabs, List.getD_eq_getElem?_getD]
      rw [List.getElem?_append_right (by (first | lia | omega)), List.getElem?_append_right (by (first | lia | omega)), l.1, l.2]
      simp
end text_Pu
section text_Kx
set_option maxRecDepth 100000

noncomputable abbrev PG : Program := PySem.Challenge.rw_op0244_01.row.prog
noncomputable abbrev KK (w : World) : Frag := hd.heap_1 w.params

section
variable {prog : Program} {w : World} {M : Model} {A : Around} {E : Value → Shared → Prop} {s : Shared} {R : Shared} {B : BM} {F : List (Addr × NM)} {μ : Led} {K : Frag}
theorem auto_eq {α : Type} {a b : α} {t : Lean.Syntax} (h : a = b) : autoParam (a = b) t := h
theorem auto_all {α β : Type} {a b : β → α} {t : Lean.Syntax} (h : a = b) : autoParam (∀ x, a x = b x) t := fun _ => by rw [h]
theorem if_yes {p q : Prop} (h : p) : if true = true then p else q := h
theorem if_no {p q : Prop} (h : q) : if false = true then p else q := h
theorem in_and {P : Prop} (hB : Base K B) (X : St R B F μ s) (h : P) : K.In s.heap ∧ P := ⟨hB.inH X, h⟩
theorem isTrue_name {x : Str} {px : Pos} {env : Env} {whole : Sem Value} {Q : Bool → Shared → Prop} (h : wpAny M A whole (fun v s₁ => wpAny M A (truthy v) Q E s₁) E s) : wpAny M A (isTrue (.Name x px) env whole) Q E s := isTrue_plain h
theorem isTrue_subs {a b : Expr} {px : Pos} {env : Env} {whole : Sem Value} {Q : Bool → Shared → Prop} (h : wpAny M A whole (fun v s₁ => wpAny M A (truthy v) Q E s₁) E s) : wpAny M A (isTrue (.Subscript a b px) env whole) Q E s := isTrue_plain h
theorem isTrue_call {a : Expr} {b : List Expr} {c : List Keyword} {px : Pos} {env : Env} {whole : Sem Value} {Q : Bool → Shared → Prop} (h : wpAny M A whole (fun v s₁ => wpAny M A (truthy v) Q E s₁) E s) : wpAny M A (isTrue (.Call a b c px) env whole) Q E s := isTrue_plain h
theorem name_go {x : Str} {px : Pos} {env : Env} {Q : Value → Shared → Prop} (h : wpAny M A (eval (.Name x px) env) Q E s) : wpAny M A (eval (.Name x px) env) Q E s := h
theorem store_go {x : Str} {v : Value} {env : Env} {Q : Unit → Shared → Prop} (h : wpAny M A (storeName env x v) Q E s) : wpAny M A (storeName env x v) Q E s := h
theorem is_nn {Q : Value → Shared → Prop} (h : Q (.bool true) s) : wpAny M A (compareOp .Is .none .none) Q E s := wpAny_is_self rfl h
theorem isnot_nn {Q : Value → Shared → Prop} (h : Q (.bool false) s) : wpAny M A (compareOp .IsNot .none .none) Q E s := wpAny_isNot_self rfl h

/-- what follows a statement, as a letter -/
structure NextTo (M : Model) (A : Around) (rest : List Stmt) (env : Env) (Q : Flow → Shared → Prop) (E : Value → Shared → Prop) (Qn : Flow → Shared → Prop) : Prop where
  nx : ∀ s, wpAny M A (execs rest env) Q E s → Qn .next s
  ot : ∀ f s, f ≠ .next → Q f s → Qn f s
noncomputable def Hold (Q : Flow → Shared → Prop) (f : Flow) (s : Shared) : Prop := Q f s
section
variable {rest : List Stmt} {env : Env} {Q Qn : Flow → Shared → Prop} {st st' : Stmt}
theorem execs_one (h : wpAny M A (exec st env) Q E s) : wpAny M A (execs [st] env) Q E s :=
  wpAny_execs_cons (wpAny_mono h (fun f _ q => by cases f <;> first | exact q | exact wpAny_execs_nil q) fun _ _ e => e)
theorem execs_x (h : ∀ Qn, NextTo M A (st' :: rest) env Q E Qn → wpAny M A (exec st env) (Hold Qn) E s) : wpAny M A (execs (st :: st' :: rest) env) Q E s :=
  wpAny_execs_cons (h (fun f s => match f with | .next => wpAny M A (execs (st' :: rest) env) Q E s | f => Q f s) ⟨fun _ q => q, fun f _ hf q => by cases f <;> first | exact q | exact absurd rfl hf⟩)
theorem seq_x (mid : Shared → Prop) (h1 : ∀ Qm, (∀ s', mid s' → Hold Qm .next s') → wpAny M A (exec st env) (Hold Qm) E s)
    (h2 : ∀ s', mid s' → wpAny M A (execs rest env) Q E s') : wpAny M A (execs (st :: rest) env) Q E s :=
  wpAny_execs_cons (h1 (fun f s => match f with | .next => wpAny M A (execs rest env) Q E s | f => Q f s) fun s' h => h2 s' h)
theorem nx_to (h : NextTo M A rest env Q E Qn) (k : wpAny M A (execs rest env) Q E s) : Hold Qn .next s := h.nx _ k
theorem brk_to (h : NextTo M A rest env Q E Qn) (k : Q .brk s) : Hold Qn .brk s := h.ot _ _ (fun e => by cases e) k
theorem cont_to (h : NextTo M A rest env Q E Qn) (k : Q .cont s) : Hold Qn .cont s := h.ot _ _ (fun e => by cases e) k
theorem ret_to {v : Value} (h : NextTo M A rest env Q E Qn) (k : Q (.ret v) s) : Hold Qn (.ret v) s := h.ot _ _ (fun e => by cases e) k
end

/-- a loop's end: it raises nothing -/
noncomputable abbrev OkOnly (Q : Flow → Shared → Prop) (r : Result) (s : Shared) : Prop := match r with | .ok f => Q f s | .error _ => False
theorem For_ok {target iter : Expr} {body orelse : List Stmt} {pos : Pos} {env : Env} {Q : Flow → Shared → Prop}
    (h : wpAny M A (eval iter env) (fun x s₁ => wpAny M A (pyIter x) (fun it s₂ => codeAny M A (.forLoop target it body orelse env) (OkOnly Q) s₂) E s₁) E s)
    (hs : ∀ x, foldedSetIterable iter env x = pure x := by intro _; rfl) : wpAny M A (exec (.For target iter body orelse pos) env) Q E s :=
  wpAny_For (wpAny_mono h (fun x _ h₁ => wpAny_mono h₁ (fun it _ h₂ => codeAny_mono h₂ fun r _ h₃ => by
    cases r with
    | ok f => exact h₃
    | error e => exact h₃.elim) fun _ _ e => e) fun _ _ e => e) hs
theorem While_ok {test : Expr} {body orelse : List Stmt} {pos : Pos} {env : Env} {Q : Flow → Shared → Prop}
    (h : codeAny M A (.whileLoop test body orelse env) (OkOnly Q) s) : wpAny M A (exec (.While test body orelse pos) env) Q E s :=
  wpAny_While (codeAny_mono h fun r _ h₃ => by
    cases r with
    | ok f => exact h₃
    | error e => exact h₃.elim)

/-- a while, its end and its turn's end as letters -/
theorem while_x {test : Expr} {body orelse : List Stmt} {env : Env} {R' : Result → Shared → Prop} (J : Nat → Shared → Prop)
    (turn : ∀ n s, J n s → ∀ (Qn Qe : Flow → Shared → Prop) (En : Value → Shared → Prop), (∀ m s', m < n → J m s' → Qn .next s') → (∀ m s', m < n → J m s' → Qn .cont s') →
      (∀ s', R' (.ok .next) s' → Qn .brk s') → (∀ v s', R' (.ok (.ret v)) s' → Qn (.ret v) s') → (∀ f s', R' (.ok f) s' → Qe f s') →
      wpAny (model prog w) A (isTrue test env (eval test env)) (fun b s₂ => if b = true then wpAny (model prog w) A (execs body env) Qn En s₂ else wpAny (model prog w) A (execs orelse env) Qe En s₂) En s)
    (n : Nat) (h : J n s) : codeAny (model prog w) A (.whileLoop test body orelse env) R' s := by
  refine codeAny_whileLoop J (fun n s hJ => ?_) n h
  refine turn n s hJ _ _ _ (fun m s' hm hJ => ⟨m, hm, hJ⟩) (fun m s' hm hJ => ⟨m, hm, hJ⟩) (fun _ h => h) (fun _ _ h => h) (fun _ _ h => h)
end
end text_Kx
section text_P1
set_option maxRecDepth 100000
noncomputable abbrev PI := Int × Int
noncomputable def leP (x y : PI) : Prop := ltP y x = false
theorem ltP_iff {x y : PI} : ltP x y = true ↔ x.1 < y.1 ∨ (x.1 = y.1 ∧ x.2 < y.2) := by unfold ltP; simp
theorem leP_iff {x y : PI} : leP x y ↔ x.1 < y.1 ∨ (x.1 = y.1 ∧ x.2 ≤ y.2) := by
  unfold leP
  rw [Bool.eq_false_iff, ne_eq, ltP_iff]; (first | lia | omega)
theorem leP_refl (x : PI) : leP x x := by rw [leP_iff]; (first | lia | omega)
theorem leP_trans {x y z : PI} (h : leP x y) (h' : leP y z) : leP x z := by rw [leP_iff] at *; (first | lia | omega)
theorem leP_of_lt {x y : PI} (h : ltP x y = true) : leP x y := by rw [leP_iff]; rw [ltP_iff] at h; (first | lia | omega)
theorem leP_of_not {x y : PI} (h : ¬ ltP y x = true) : leP x y := by unfold leP; simpa using h
theorem ltP_of_le_ne {x y : PI} (h : leP x y) (hn : x ≠ y) : ltP x y = true := by
  rw [ltP_iff]; rw [leP_iff] at h
  by_cases e : x.1 = y.1 ∧ x.2 = y.2
  · exact absurd (Prod.ext e.1 e.2) hn
  · (first | lia | omega)

noncomputable def at_ (l : List PI) (i : Nat) : PI := l.getD i (0, 0)
theorem at_set_self {l : List PI} {i : Nat} {x : PI} (h : i < l.length) : at_ (l.set i x) i = x := by unfold at_; rw [List.getD_eq_getElem?_getD, List.getElem?_set_self h]; rfl
theorem at_set_ne {l : List PI} {i j : Nat} {x : PI} (h : i ≠ j) : at_ (l.set i x) j = at_ l j := by unfold at_; rw [List.getD_eq_getElem?_getD, List.getElem?_set_ne h, ← List.getD_eq_getElem?_getD]

noncomputable def IsHeap (l : List PI) : Prop := ∀ i, 0 < i → i < l.length → leP (at_ l ((i - 1) / 2)) (at_ l i)
/-- all right but for x at pos against its parent -/
noncomputable def Hole (l : List PI) (pos : Nat) (x : PI) : Prop :=
  (∀ i, 0 < i → i < l.length → i ≠ pos → leP (at_ (l.set pos x) ((i - 1) / 2)) (at_ (l.set pos x) i)) ∧
  (0 < pos → ∀ i, i < l.length → 0 < i → (i - 1) / 2 = pos → leP (at_ l ((pos - 1) / 2)) (at_ l i))

theorem sdK_len (l : List PI) (pos : Nat) (x : PI) : (sdK l pos x).length = l.length := by
  induction pos using Nat.strongRecOn generalizing l with
  | ind pos ih =>
    rw [sdK_eq]
    split
    · simp
    · split
      · rw [ih _ (by (first | lia | omega))]; simp
      · simp
theorem sdK_heap (l : List PI) (pos : Nat) (x : PI) (hp : pos < l.length) (H : Hole l pos x) : IsHeap (sdK l pos x) := by
  induction pos using Nat.strongRecOn generalizing l with
  | ind pos ih =>
    rw [sdK_eq]
    split
    · rename_i h0
      subst h0
      intro i hi hl
      simp only [List.length_set] at hl
      exact H.1 i hi hl (by (first | lia | omega))
    · rename_i h0
      have hpp : (pos - 1) / 2 < pos := by (first | lia | omega)
      split
      · rename_i hlt
        have hlt : ltP x (at_ l ((pos - 1) / 2)) = true := hlt
        refine ih _ hpp _ (by simp; (first | lia | omega)) ⟨fun i hi hl hne => ?_, fun hpos i hl hi he => ?_⟩
        · simp only [List.length_set] at hl
          show leP (at_ ((l.set pos (at_ l ((pos - 1) / 2))).set ((pos - 1) / 2) x) ((i - 1) / 2)) (at_ ((l.set pos (at_ l ((pos - 1) / 2))).set ((pos - 1) / 2) x) i)
          rw [at_set_ne (i := (pos - 1) / 2) (j := i) (by (first | lia | omega))]
          by_cases hip : i = pos
          · subst hip
            rw [at_set_self (i := (i - 1) / 2) (by simp; (first | lia | omega)), at_set_self hp]
            exact leP_of_lt hlt
          · rw [at_set_ne (i := pos) (j := i) (by (first | lia | omega))]
            by_cases e1 : (i - 1) / 2 = (pos - 1) / 2
            · rw [e1, at_set_self (by simp; (first | lia | omega))]
              have := H.1 i hi hl hip
              rw [e1, at_set_ne (by (first | lia | omega)), at_set_ne (by (first | lia | omega))] at this
              exact leP_trans (leP_of_lt hlt) this
            · rw [at_set_ne (i := (pos - 1) / 2) (by (first | lia | omega))]
              by_cases e2 : (i - 1) / 2 = pos
              · rw [e2, at_set_self hp]
                exact H.2 (by (first | lia | omega)) i hl hi e2
              · rw [at_set_ne (by (first | lia | omega))]
                have := H.1 i hi hl hip
                rw [at_set_ne (by (first | lia | omega)), at_set_ne (by (first | lia | omega))] at this
                exact this
        · simp only [List.length_set] at hl
          show leP (at_ (l.set pos (at_ l ((pos - 1) / 2))) (((pos - 1) / 2 - 1) / 2)) (at_ (l.set pos (at_ l ((pos - 1) / 2))) i)
          have g1 := H.1 ((pos - 1) / 2) hpos (by (first | lia | omega)) (by (first | lia | omega))
          rw [at_set_ne (by (first | lia | omega)), at_set_ne (by (first | lia | omega))] at g1
          rw [at_set_ne (by (first | lia | omega))]
          by_cases hip : i = pos
          · subst hip
            rw [at_set_self hp]; exact g1
          · rw [at_set_ne (by (first | lia | omega))]
            have := H.1 i hi hl hip
            rw [he, at_set_ne (by (first | lia | omega)), at_set_ne (by (first | lia | omega))] at this
            exact leP_trans g1 this
      · rename_i hlt
        have hlt : ¬ ltP x (at_ l ((pos - 1) / 2)) = true := hlt
        intro i hi hl
        simp only [List.length_set] at hl
        by_cases hip : i = pos
        · subst hip
          rw [at_set_self hp, at_set_ne (by (first | lia | omega))]
          exact leP_of_not hlt
        · exact H.1 i hi hl hip
theorem swap_perm {l : List PI} {i j : Nat} {x : PI} (hi : i < l.length) (hj : j < l.length) (hn : i ≠ j) : ((l.set i (at_ l j)).set j x).Perm (l.set i x) := by
  have h := List.set_set_perm (as := l.set i x) (i := i) (j := j) (by simpa using hi) (by simpa using hj)
  have e1 : (l.set i x)[j]'(by simpa using hj) = at_ l j := by
    rw [List.getElem_set_ne hn]; unfold at_; rw [List.getD_eq_getElem?_getD, List.getElem?_eq_getElem hj]; rfl
  have e2 : (l.set i x)[i]'(by simpa using hi) = x := by simp
  rw [e1, e2, List.set_set] at h
  exact h
theorem sdK_perm (l : List PI) (pos : Nat) (x : PI) (hp : pos < l.length) : (sdK l pos x).Perm (l.set pos x) := by
  induction pos using Nat.strongRecOn generalizing l with
  | ind pos ih =>
    rw [sdK_eq]
    split
    · rename_i h0; subst h0; exact .refl _
    · split
      · refine (ih _ (by (first | lia | omega)) _ (by simp; (first | lia | omega))).trans ?_
        exact swap_perm hp (by (first | lia | omega)) (by (first | lia | omega))
      · exact .refl _

theorem pushK_perm (l : List PI) (x : PI) : (pushK l x).Perm (x :: l) := by
  unfold pushK
  refine (sdK_perm _ _ _ (by simp)).trans ?_
  rw [List.set_append_right _ _ (Nat.le_refl _)]
  simpa using List.perm_append_comm (l₁ := l) (l₂ := [x])
theorem at_app {l : List PI} {x : PI} {i : Nat} (h : i < l.length) : at_ (l ++ [x]) i = at_ l i := by
  unfold at_; rw [List.getD_eq_getElem?_getD, List.getElem?_append_left h, ← List.getD_eq_getElem?_getD]
theorem pushK_heap (l : List PI) (x : PI) (H : IsHeap l) : IsHeap (pushK l x) := by
  unfold pushK
  refine sdK_heap _ _ _ (by simp) ⟨fun i hi hl hne => ?_, fun hpos i hl hi he => ?_⟩
  · simp only [List.length_append, List.length_cons, List.length_nil] at hl
    rw [at_set_ne (by (first | lia | omega)), at_set_ne (by (first | lia | omega)), at_app (by (first | lia | omega)), at_app (by (first | lia | omega))]
    exact H i hi (by (first | lia | omega))
  · simp only [List.length_append, List.length_cons, List.length_nil] at hl
    (first | lia | omega)

/-- a heap but for the place pos -/
noncomputable def Gap (l : List PI) (pos : Nat) : Prop :=
  (∀ i, 0 < i → i < l.length → i ≠ pos → (i - 1) / 2 ≠ pos → leP (at_ l ((i - 1) / 2)) (at_ l i)) ∧
  (0 < pos → ∀ i, i < l.length → 0 < i → (i - 1) / 2 = pos → leP (at_ l ((pos - 1) / 2)) (at_ l i))
theorem suC_le {l : List PI} {pos i : Nat} (h : 2 * pos + 1 < l.length) (hi : i < l.length) (h0 : 0 < i) (he : (i - 1) / 2 = pos) : leP (at_ l (suC l pos)) (at_ l i) := by
  unfold suC
  have hi2 : i = 2 * pos + 1 ∨ i = 2 * pos + 2 := by (first | lia | omega)
  split
  · rename_i hc
    have hc2 : leP (at_ l (2 * pos + 2)) (at_ l (2 * pos + 1)) := hc.2
    rcases hi2 with rfl | rfl
    · exact hc2
    · exact leP_refl _
  · rename_i hc
    rcases hi2 with rfl | rfl
    · exact leP_refl _
    · refine leP_of_lt ?_
      cases q : ltP (at_ l (2 * pos + 1)) (at_ l (2 * pos + 2)) with
      | true => rfl
      | false => exact absurd ⟨hi, q⟩ hc
theorem suK_ok (l : List PI) (pos : Nat) (x : PI) (hp : pos < l.length) (G : Gap l pos) :
    Hole ((suK l pos).1.set (suK l pos).2 x) (suK l pos).2 x ∧ ((suK l pos).1.set (suK l pos).2 x).Perm (l.set pos x) := by
  rw [suK_eq]
  split
  · rename_i hc
    have q := suC_lt hc
    have hpar : (suC l pos - 1) / 2 = pos := by unfold suC; split <;> (first | lia | omega)
    have ih := suK_ok (l.set pos (l.getD (suC l pos) (0, 0))) (suC l pos) x (by simpa using q.1) ⟨fun i hi hl hne hnp => ?_, fun hpos i hl hi he => ?_⟩
    · refine ⟨ih.1, ih.2.trans ?_⟩
      exact swap_perm hp q.1 (by (first | lia | omega))
    · simp only [List.length_set] at hl
      show leP (at_ (l.set pos (at_ l (suC l pos))) ((i - 1) / 2)) (at_ (l.set pos (at_ l (suC l pos))) i)
      by_cases hip : i = pos
      · subst hip
        rw [at_set_self hp, at_set_ne (by (first | lia | omega))]
        exact G.2 (by (first | lia | omega)) _ q.1 (by (first | lia | omega)) hpar
      · rw [at_set_ne (i := pos) (j := i) (by (first | lia | omega))]
        by_cases e : (i - 1) / 2 = pos
        · rw [e, at_set_self hp]
          exact suC_le hc hl hi e
        · rw [at_set_ne (by (first | lia | omega))]
          exact G.1 i hi hl hip e
    · simp only [List.length_set] at hl
      show leP (at_ (l.set pos (at_ l (suC l pos))) ((suC l pos - 1) / 2)) (at_ (l.set pos (at_ l (suC l pos))) i)
      rw [hpar, at_set_self hp, at_set_ne (by (first | lia | omega)), ← he]
      exact G.1 i hi hl (by (first | lia | omega)) (by (first | lia | omega))
  · rename_i hc
    refine ⟨⟨fun i hi hl hne => ?_, fun hpos i hl hi he => ?_⟩, .refl _⟩
    · simp only [List.length_set] at hl
      show leP (at_ ((l.set pos x).set pos x) _) (at_ ((l.set pos x).set pos x) _)
      rw [List.set_set, at_set_ne (by show pos ≠ _; (first | lia | omega)), at_set_ne (by show pos ≠ _; have : i ≠ pos := hne; (first | lia | omega))]
      exact G.1 i hi hl hne (by (first | lia | omega))
    · simp only [List.length_set] at hl
      have he : (i - 1) / 2 = pos := he
      (first | lia | omega)
termination_by l.length - pos
decreasing_by simp only [List.length_set]; (first | lia | omega)

theorem popK_spec (l : List PI) (y : PI) (h0 : l[0]? = some y) (H : IsHeap l) : IsHeap (popK l) ∧ l.Perm (y :: popK l) := by
  unfold popK
  have hne : l ≠ [] := by intro e; rw [e] at h0; simp at h0
  have hl : 0 < l.length := List.length_pos_iff.mpr hne
  have hcat : l.dropLast ++ [l.getLast hne] = l := List.dropLast_concat_getLast hne
  have hlast : l.getLastD (0, 0) = l.getLast hne := by
    cases l with
    | nil => simp at hl
    | cons a r => rfl
  split
  · rename_i ed
    rw [ed] at hcat
    refine ⟨fun i hi hl => by simp at hl, ?_⟩
    rw [← hcat] at h0 ⊢
    simp at h0; rw [h0]; exact List.Perm.refl _
  · rename_i z r ed
    have hz : z = y := by
      rw [← hcat, ed] at h0; simpa using h0
    subst hz
    have hlen : (z :: r).length = l.length - 1 := by rw [← ed, List.length_dropLast]
    simp only [List.length_cons] at hlen
    have hat : ∀ i, i < r.length + 1 → at_ (z :: r) i = at_ l i := fun i hi => by
      rw [← ed]; unfold at_
      rw [List.getD_eq_getElem?_getD, List.getD_eq_getElem?_getD, List.getElem?_dropLast, if_pos (by (first | lia | omega))]
    have hat2 : ∀ w i, 0 < i → at_ (w :: r) i = at_ (z :: r) i := fun w i hi => by
      unfold at_
      cases i with
      | zero => (first | lia | omega)
      | succ i => rfl
    have G : Gap (l.getLastD (0, 0) :: r) 0 := by
      refine ⟨fun i hi hl2 hne hnp => ?_, fun h => absurd h (Nat.lt_irrefl _)⟩
      simp only [List.length_cons] at hl2
      rw [hat2 _ _ hi, hat2 _ _ (by (first | lia | omega)), hat i hl2, hat _ (by (first | lia | omega))]
      exact H i hi (by (first | lia | omega))
    have h1 := suK_ok (l.getLastD (0, 0) :: r) 0 (l.getLastD (0, 0)) (by simp) G
    have h2 := suK_spec (l.getLastD (0, 0) :: r) 0 (by simp)
    unfold siftupK
    have h3 : (suK (l.getLastD (0, 0) :: r) 0).2 < ((suK (l.getLastD (0, 0) :: r) 0).1.set (suK (l.getLastD (0, 0) :: r) 0).2 (l.getLastD (0, 0))).length := by rw [List.length_set, h2.1]; exact h2.2
    refine ⟨sdK_heap _ _ _ h3 h1.1, ?_⟩
    have p1 := sdK_perm _ _ (l.getLastD (0, 0)) h3
    rw [List.set_set] at p1
    have p2 := p1.trans h1.2
    simp only [List.set_cons_zero] at p2
    refine List.Perm.trans ?_ (p2.symm.cons z)
    rw [hlast]
    conv => lhs; rw [← hcat, ed]
    exact (List.perm_append_comm (l₁ := r) (l₂ := [l.getLast hne])).cons z
theorem heap_min {l : List PI} (H : IsHeap l) : ∀ i, i < l.length → leP (at_ l 0) (at_ l i) := by
  intro i
  induction i using Nat.strongRecOn with
  | ind i ih =>
    intro hi
    by_cases h0 : i = 0
    · subst h0; exact leP_refl _
    · exact leP_trans (ih ((i - 1) / 2) (by (first | lia | omega)) (by (first | lia | omega))) (H i (by (first | lia | omega)) hi)
theorem heap_min_mem {l : List PI} (H : IsHeap l) {y : PI} (h0 : l[0]? = some y) : ∀ z ∈ l, leP y z := by
  intro z hz
  obtain ⟨i, hi⟩ := List.mem_iff_getElem?.mp hz
  have h := heap_min H i (List.getElem?_eq_some_iff.mp hi).1
  unfold at_ at h
  rw [List.getD_eq_getElem?_getD, List.getD_eq_getElem?_getD, h0, hi] at h
  exact h
end text_P1
section text_So
set_option maxRecDepth 100000
set_option maxHeartbeats 1000000

noncomputable def kev {α : Type} (f : Nat → Nat → Bool) : KasT α → α
  | .ret a => a
  | .ask i j k => kev f (k (f i j))
noncomputable def KIn {α : Type} (f : Nat → Nat → Bool) (n : Nat) : KasT α → Prop
  | .ret _ => True
  | .ask i j k => i < n ∧ j < n ∧ KIn f n (k (f i j))
section
variable {f : Nat → Nat → Bool} {n : Nat}
theorem kev_bind {α β : Type} (g : α → KasT β) : ∀ t : KasT α, kev f (t.bind g) = kev f (g (kev f t))
  | .ret a => rfl
  | .ask i j k => kev_bind g (k (f i j))
theorem KIn_bind {α β : Type} {g : α → KasT β} : ∀ {t : KasT α}, KIn f n t → KIn f n (g (kev f t)) → KIn f n (t.bind g)
  | .ret a, _, h => h
  | .ask i j k, h, h' => ⟨h.1, h.2.1, KIn_bind (t := k (f i j)) h.2.2 h'⟩
theorem kasWp_kev {α : Type} {cmp : Nat → Nat → (Bool → Shared → Prop) → Shared → Prop} {Q : α → Shared → Prop} {s : Shared} (hc : ∀ i j C, i < n → j < n → C (f i j) s → cmp i j C s) : ∀ {t : KasT α}, KIn f n t → Q (kev f t) s → t.kasWp cmp Q s
  | .ret a, _, h => h
  | .ask i j k, hi, h => hc i j _ hi.1 hi.2.1 (kasWp_kev hc (t := k (f i j)) hi.2.2 h)

structure Ord (f : Nat → Nat → Bool) (n : Nat) : Prop where
  tot : ∀ i j, i < n → j < n → i ≠ j → f i j = false → f j i = true
  asym : ∀ i j, i < n → j < n → f i j = true → f j i = false
  trans : ∀ i j k, i < n → j < n → k < n → f i j = true → f j k = true → f i k = true

noncomputable def gA (p : Array Nat) (i : Nat) : Nat := p.getD i 0
structure PA (n : Nat) (p : Array Nat) : Prop where
  sz : p.size = n
  lt : ∀ i, i < n → gA p i < n
  inj : ∀ i j, i < n → j < n → gA p i = gA p j → i = j
theorem gA_some {p : Array Nat} {i : Nat} (h : i < p.size) : p[i]? = some (gA p i) := by unfold gA; simp [Array.getD, h]
theorem gA_of {p : Array Nat} {i v : Nat} (h : p[i]? = some v) : gA p i = v := by
  have hi : i < p.size := (Array.getElem?_eq_some_iff.mp h).1
  rw [gA_some hi] at h; injection h
theorem PA.range (n : Nat) : PA n (List.toArray (List.range n)) := by
  have h : ∀ i, i < n → gA (List.toArray (List.range n)) i = i := fun i hi => gA_of (by simp [hi])
  refine ⟨by simp, fun i hi => by rw [h i hi]; exact hi, fun i j hi hj e => by rwa [h i hi, h j hj] at e⟩
noncomputable def SoN (f : Nat → Nat → Bool) (p : Array Nat) (k : Nat) : Prop := ∀ i j, i < j → j < k → f (gA p i) (gA p j) = true

theorem gA_lt {p : Array Nat} (P : PA n p) (hn : 0 < n) (i : Nat) : gA p i < n := by
  by_cases h : i < n
  · exact P.lt i h
  · unfold gA; rw [Array.getD]; rw [dif_neg (by rw [P.sz]; exact h)]; exact hn

theorem asc_ev (O : Ord f n) {p : Array Nat} (P : PA n p) : ∀ (fu k : Nat), 1 ≤ k → k + fu ≤ n → SoN f p k →
    KIn f n (kas_asc p fu k) ∧ k ≤ kev f (kas_asc p fu k) ∧ kev f (kas_asc p fu k) ≤ k + fu ∧ SoN f p (kev f (kas_asc p fu k)) ∧
      (kev f (kas_asc p fu k) < k + fu → f (gA p (kev f (kas_asc p fu k))) (gA p (kev f (kas_asc p fu k) - 1)) = true)
  | 0, k, h1, hk, S => ⟨trivial, Nat.le_refl _, Nat.le_refl _, S, fun h => absurd h (Nat.lt_irrefl _)⟩
  | fu + 1, k, h1, hk, S => by
    have l1 := P.lt k (by (first | lia | omega))
    have l2 := P.lt (k - 1) (by (first | lia | omega))
    show (_ ∧ _ ∧ KIn f n (if f (gA p k) (gA p (k - 1)) = true then KasT.ret k else kas_asc p fu (k + 1))) ∧ k ≤ kev f (if f (gA p k) (gA p (k - 1)) = true then KasT.ret k else kas_asc p fu (k + 1)) ∧ kev f (if f (gA p k) (gA p (k - 1)) = true then KasT.ret k else kas_asc p fu (k + 1)) ≤ k + (fu + 1) ∧
      SoN f p (kev f (if f (gA p k) (gA p (k - 1)) = true then KasT.ret k else kas_asc p fu (k + 1))) ∧ (kev f (if f (gA p k) (gA p (k - 1)) = true then KasT.ret k else kas_asc p fu (k + 1)) < k + (fu + 1) →
        f (gA p (kev f (if f (gA p k) (gA p (k - 1)) = true then KasT.ret k else kas_asc p fu (k + 1)))) (gA p (kev f (if f (gA p k) (gA p (k - 1)) = true then KasT.ret k else kas_asc p fu (k + 1)) - 1)) = true)
    by_cases hc : f (gA p k) (gA p (k - 1)) = true
    · rw [if_pos hc]
      exact ⟨⟨l1, l2, trivial⟩, Nat.le_refl _, by show k ≤ _; (first | lia | omega), S, fun _ => hc⟩
    · rw [if_neg hc]
      have ht := O.tot _ _ l1 l2 (fun e => by have := P.inj _ _ (by (first | lia | omega)) (by (first | lia | omega)) e; (first | lia | omega)) (by simpa using hc)
      have S' : SoN f p (k + 1) := fun i j hij hj => by
        by_cases e : j = k
        · subst e
          by_cases e2 : i = j - 1
          · subst e2; exact ht
          · exact O.trans _ _ _ (P.lt i (by (first | lia | omega))) l2 l1 (S i (j - 1) (by (first | lia | omega)) (by (first | lia | omega))) ht
        · exact S i j hij (by (first | lia | omega))
      obtain ⟨a, b, c, d, e⟩ := asc_ev O P fu (k + 1) (by (first | lia | omega)) (by (first | lia | omega)) S'
      exact ⟨⟨l1, l2, a⟩, by (first | lia | omega), by (first | lia | omega), d, fun h => e (by (first | lia | omega))⟩

noncomputable def DeN (f : Nat → Nat → Bool) (p : Array Nat) (k : Nat) : Prop := ∀ i j, i < j → j < k → f (gA p j) (gA p i) = true
theorem desc_ev (O : Ord f n) {p : Array Nat} (P : PA n p) : ∀ (fu k : Nat), 1 ≤ k → k + fu ≤ n → DeN f p k →
    KIn f n (kas_desc fu p k 0) ∧ ∃ m, kev f (kas_desc fu p k 0) = (p, m, 0) ∧ k ≤ m ∧ m ≤ k + fu ∧ DeN f p m
  | 0, k, h1, hk, S => ⟨trivial, k, rfl, Nat.le_refl _, Nat.le_refl _, S⟩
  | fu + 1, k, h1, hk, S => by
    have l1 := P.lt k (by (first | lia | omega))
    have l2 := P.lt (k - 1) (by (first | lia | omega))
    have hne : gA p k ≠ gA p (k - 1) := fun e => by have := P.inj _ _ (by (first | lia | omega)) (by (first | lia | omega)) e; (first | lia | omega)
    show (gA p k < n ∧ gA p (k - 1) < n ∧ KIn f n (if f (gA p k) (gA p (k - 1)) = true then kas_desc fu p (k + 1) 0 else KasT.ask (gA p (k - 1)) (gA p k) fun d => if d = true then .ret (p, k, 0) else kas_desc fu p (k + 1) (0 + 1))) ∧
      ∃ m, kev f (if f (gA p k) (gA p (k - 1)) = true then kas_desc fu p (k + 1) 0 else KasT.ask (gA p (k - 1)) (gA p k) fun d => if d = true then .ret (p, k, 0) else kas_desc fu p (k + 1) (0 + 1)) = (p, m, 0) ∧ k ≤ m ∧ m ≤ k + (fu + 1) ∧ DeN f p m
    by_cases hc : f (gA p k) (gA p (k - 1)) = true
    · rw [if_pos hc]
      have S' : DeN f p (k + 1) := fun i j hij hj => by
        by_cases e : j = k
        · subst e
          by_cases e2 : i = j - 1
          · subst e2; exact hc
          · exact O.trans _ _ _ l1 l2 (P.lt i (by (first | lia | omega))) hc (S i (j - 1) (by (first | lia | omega)) (by (first | lia | omega)))
        · exact S i j hij (by (first | lia | omega))
      obtain ⟨a, m, b, c, d, e⟩ := desc_ev O P fu (k + 1) (by (first | lia | omega)) (by (first | lia | omega)) S'
      exact ⟨⟨l1, l2, a⟩, m, b, by (first | lia | omega), by (first | lia | omega), e⟩
    · rw [if_neg hc]
      have ht := O.tot _ _ l1 l2 hne (by simpa using hc)
      refine ⟨⟨l1, l2, l2, l1, ?_⟩, k, ?_, Nat.le_refl _, by (first | lia | omega), S⟩
      · show KIn f n (if f (gA p (k - 1)) (gA p k) = true then KasT.ret (p, k, 0) else kas_desc fu p (k + 1) (0 + 1))
        rw [if_pos ht]; trivial
      · show kev f (if f (gA p (k - 1)) (gA p k) = true then KasT.ret (p, k, 0) else kas_desc fu p (k + 1) (0 + 1)) = _
        rw [if_pos ht]; rfl

theorem rev_at {p : Array Nat} (P : PA n p) {k i : Nat} (hk : k ≤ n) (hi : i < n) : gA (kas_rev p 0 k) i = if i < k then gA p (k - 1 - i) else gA p i := by
  have h := getElem?_mirror_all (xs := p) (i := 0) (j := k) (by rw [P.sz]; exact hk) i
  unfold kas_rev
  by_cases e : i < k
  · rw [if_pos ⟨Nat.zero_le _, e⟩, Nat.zero_add] at h
    rw [if_pos e]; exact gA_of (h.trans (gA_some (by rw [P.sz]; (first | lia | omega))))
  · rw [if_neg (fun h => e h.2)] at h
    rw [if_neg e]; exact gA_of (h.trans (gA_some (by rw [P.sz]; exact hi)))
theorem PA.rev {p : Array Nat} (P : PA n p) {k : Nat} (hk : k ≤ n) : PA n (kas_rev p 0 k) := by
  refine ⟨by unfold kas_rev; rw [mirror_size, P.sz], fun i hi => ?_, fun i j hi hj e => ?_⟩
  · rw [rev_at P hk hi]; split
    · exact P.lt _ (by (first | lia | omega))
    · exact P.lt _ hi
  · rw [rev_at P hk hi, rev_at P hk hj] at e
    split at e <;> split at e
    · have := P.inj _ _ (by (first | lia | omega)) (by (first | lia | omega)) e; (first | lia | omega)
    · have := P.inj _ _ (by (first | lia | omega)) (by (first | lia | omega)) e; (first | lia | omega)
    · have := P.inj _ _ (by (first | lia | omega)) (by (first | lia | omega)) e; (first | lia | omega)
    · exact P.inj _ _ hi hj e
theorem rev_so {p : Array Nat} (P : PA n p) {k : Nat} (hk : k ≤ n) (S : DeN f p k) : SoN f (kas_rev p 0 k) k := fun i j hij hj => by
  rw [rev_at P hk (by (first | lia | omega)), rev_at P hk (by (first | lia | omega)), if_pos (by (first | lia | omega)), if_pos hj]
  exact S _ _ (by (first | lia | omega)) (by (first | lia | omega))

theorem count_ev (O : Ord f n) (hn : 1 ≤ n) {p : Array Nat} (P : PA n p) : KIn f n (kas_count n p) ∧ ∃ m q, kev f (kas_count n p) = (m, q) ∧ PA n q ∧ 1 ≤ m ∧ m ≤ n ∧ SoN f q m := by
  obtain ⟨a, b, c, d, e⟩ := asc_ev O P (n - 1) 1 (Nat.le_refl _) (by (first | lia | omega)) (fun i j hij hj => by (first | lia | omega))
  have hev : kev f (kas_count n p) = kev f (if (kev f (kas_asc p (n - 1) 1) == n) = true then KasT.ret (kev f (kas_asc p (n - 1) 1), p) else if kev f (kas_asc p (n - 1) 1) > 1 then .ask (p.getD 0 0) (p.getD (kev f (kas_asc p (n - 1) 1) - 1) 0) fun c => if c = true then .ret (kev f (kas_asc p (n - 1) 1), p) else kas_descPart (kev f (kas_asc p (n - 1) 1)) n (kas_rev p 0 (kev f (kas_asc p (n - 1) 1))) else kas_descPart (kev f (kas_asc p (n - 1) 1)) n p) := by
    unfold kas_count; exact kev_bind _ _
  have hin := fun h => KIn_bind (f := f) (n := n) (g := fun m => if (m == n) = true then KasT.ret (m, p) else if m > 1 then .ask (p.getD 0 0) (p.getD (m - 1) 0) fun c => if c = true then .ret (m, p) else kas_descPart m n (kas_rev p 0 m) else kas_descPart m n p) (t := kas_asc p (n - 1) 1) a h
  rw [hev]
  show KIn f n ((kas_asc p (n - 1) 1).bind _) ∧ _
  generalize kev f (kas_asc p (n - 1) 1) = m at *
  by_cases h1 : (m == n) = true
  · rw [if_pos h1]
    exact ⟨hin (by rw [if_pos h1]; trivial), m, p, rfl, P, b, by (first | lia | omega), d⟩
  · rw [if_neg h1]
    have h1' : m ≠ n := by simpa using h1
    by_cases h2 : m > 1
    · rw [if_pos h2]
      have ht := d 0 (m - 1) (by (first | lia | omega)) (by (first | lia | omega))
      refine ⟨hin ?_, m, p, ?_, P, b, by (first | lia | omega), d⟩
      · rw [if_neg h1, if_pos h2]
        refine ⟨P.lt 0 (by (first | lia | omega)), P.lt (m - 1) (by (first | lia | omega)), ?_⟩
        show KIn f n (if f (gA p 0) (gA p (m - 1)) = true then KasT.ret (m, p) else kas_descPart m n (kas_rev p 0 m))
        rw [if_pos ht]; trivial
      · show kev f (if f (gA p 0) (gA p (m - 1)) = true then KasT.ret (m, p) else kas_descPart m n (kas_rev p 0 m)) = _
        rw [if_pos ht]; rfl
    · rw [if_neg h2]
      have h3 : m = 1 := by (first | lia | omega)
      subst h3
      have hd := e (by (first | lia | omega))
      have D2 : DeN f p (1 + 1) := fun i j hij hj => by
        have : i = 0 ∧ j = 1 := by (first | lia | omega)
        rw [this.1, this.2]; exact hd
      obtain ⟨a2, k, b2, c2, d2, e2⟩ := desc_ev O P (n - (1 + 1)) (1 + 1) (by (first | lia | omega)) (by (first | lia | omega)) D2
      have PR := P.rev (k := k) (by (first | lia | omega))
      obtain ⟨a3, b3, c3, d3, e3⟩ := asc_ev O PR (n - k) k (by (first | lia | omega)) (by (first | lia | omega)) (rev_so P (by (first | lia | omega)) e2)
      have hev2 : kev f (kas_descPart 1 n p) = (kev f (kas_asc (kas_rev p 0 k) (n - k) k), kas_rev p 0 k) := by
        unfold kas_descPart
        rw [kev_bind, b2]
        show kev f (kas_tail3 k n p) = _
        unfold kas_tail3
        rw [kev_bind]; rfl
      have hin2 : KIn f n (kas_descPart 1 n p) := by
        unfold kas_descPart
        refine KIn_bind a2 ?_
        rw [b2]
        show KIn f n (kas_tail3 k n p)
        unfold kas_tail3
        exact KIn_bind a3 trivial
      refine ⟨hin (by rw [if_neg h1, if_neg h2]; exact hin2), _, _, hev2, PR, by (first | lia | omega), by (first | lia | omega), d3⟩

theorem place_ev (O : Ord f n) {p : Array Nat} (P : PA n p) {k : Nat} (hk : k < n) (S : SoN f p k) : ∀ (fu l r : Nat), l ≤ r → r ≤ k → r - l ≤ fu → (∀ i, i < l → f (gA p i) (gA p k) = true) → (∀ i, r ≤ i → i < k → f (gA p k) (gA p i) = true) →
    KIn f n (kas_place p k fu l r) ∧ kev f (kas_place p k fu l r) ≤ k ∧ (∀ i, i < kev f (kas_place p k fu l r) → f (gA p i) (gA p k) = true) ∧ (∀ i, kev f (kas_place p k fu l r) ≤ i → i < k → f (gA p k) (gA p i) = true)
  | 0, l, r, h1, h2, h3, hl, hr => ⟨trivial, by show l ≤ k; (first | lia | omega), hl, fun i hi hik => hr i (by show r ≤ i; have : l ≤ i := hi; (first | lia | omega)) hik⟩
  | fu + 1, l, r, h1, h2, h3, hl, hr => by
    rw [kas_place]
    by_cases hlr : l ≥ r
    · rw [if_pos hlr]
      exact ⟨trivial, by show l ≤ k; (first | lia | omega), hl, fun i hi hik => hr i (by have : l ≤ i := hi; (first | lia | omega)) hik⟩
    · rw [if_neg hlr]
      have hm : (l + r) / 2 < r ∧ l ≤ (l + r) / 2 := by (first | lia | omega)
      have lk := P.lt k hk
      have lm := P.lt ((l + r) / 2) (by (first | lia | omega))
      show (gA p k < n ∧ gA p ((l + r) / 2) < n ∧ KIn f n (if f (gA p k) (gA p ((l + r) / 2)) = true then kas_place p k fu l ((l + r) / 2) else kas_place p k fu ((l + r) / 2 + 1) r)) ∧ kev f (if f (gA p k) (gA p ((l + r) / 2)) = true then kas_place p k fu l ((l + r) / 2) else kas_place p k fu ((l + r) / 2 + 1) r) ≤ k ∧
        (∀ i, i < kev f (if f (gA p k) (gA p ((l + r) / 2)) = true then kas_place p k fu l ((l + r) / 2) else kas_place p k fu ((l + r) / 2 + 1) r) → f (gA p i) (gA p k) = true) ∧
        (∀ i, kev f (if f (gA p k) (gA p ((l + r) / 2)) = true then kas_place p k fu l ((l + r) / 2) else kas_place p k fu ((l + r) / 2 + 1) r) ≤ i → i < k → f (gA p k) (gA p i) = true)
      by_cases hc : f (gA p k) (gA p ((l + r) / 2)) = true
      · rw [if_pos hc]
        obtain ⟨a, b, c, d⟩ := place_ev O P hk S fu l ((l + r) / 2) (by (first | lia | omega)) (by (first | lia | omega)) (by (first | lia | omega)) hl (fun i hi hik => by
          by_cases e : i = (l + r) / 2
          · subst e; exact hc
          · exact O.trans _ _ _ lk lm (P.lt i (by (first | lia | omega))) hc (S _ _ (by (first | lia | omega)) hik))
        exact ⟨⟨lk, lm, a⟩, b, c, d⟩
      · rw [if_neg hc]
        have ht := O.tot _ _ lk lm (fun e => by have := P.inj _ _ hk (by (first | lia | omega)) e; (first | lia | omega)) (by simpa using hc)
        obtain ⟨a, b, c, d⟩ := place_ev O P hk S fu ((l + r) / 2 + 1) r (by (first | lia | omega)) (by (first | lia | omega)) (by (first | lia | omega)) (fun i hi => by
          by_cases e : i = (l + r) / 2
          · subst e; exact ht
          · exact O.trans _ _ _ (P.lt i (by (first | lia | omega))) lm lk (S _ _ (by (first | lia | omega)) (by (first | lia | omega))) ht) hr
        exact ⟨⟨lk, lm, a⟩, b, c, d⟩

theorem bub_at {p : Array Nat} (P : PA n p) {k l i : Nat} (hk : k < n) (hl : l ≤ k) (hi : i < n) : gA (bubble p k (k - l)) i = if i = l then gA p k else if l < i ∧ i ≤ k then gA p (i - 1) else gA p i := by
  have h := getElem?_bubble (xs := p) (src := k) (by rw [P.sz]; exact hk) (k - l) (by (first | lia | omega)) i
  have e : k - (k - l) = l := by (first | lia | omega)
  rw [e] at h
  refine gA_of (h.trans ?_)
  split
  · exact gA_some (by rw [P.sz]; exact hk)
  · split
    · exact gA_some (by rw [P.sz]; (first | lia | omega))
    · exact gA_some (by rw [P.sz]; exact hi)
theorem PA.bub {p : Array Nat} (P : PA n p) {k l : Nat} (hk : k < n) (hl : l ≤ k) : PA n (bubble p k (k - l)) := by
  refine ⟨by rw [bubble_size, P.sz], fun i hi => ?_, fun i j hi hj e => ?_⟩
  · rw [bub_at P hk hl hi]
    split
    · exact P.lt _ hk
    · split
      · exact P.lt _ (by (first | lia | omega))
      · exact P.lt _ hi
  · rw [bub_at P hk hl hi, bub_at P hk hl hj] at e
    split at e <;> split at e <;> (try split at e) <;> (try split at e) <;> (have := P.inj _ _ (by (first | lia | omega)) (by (first | lia | omega)) e; (first | lia | omega))
theorem bin_ev (O : Ord f n) : ∀ (fu : Nat) (p : Array Nat) (k : Nat), PA n p → 1 ≤ k → k + fu ≤ n → SoN f p k → KIn f n (kas_bin fu p k) ∧ PA n (kev f (kas_bin fu p k)) ∧ SoN f (kev f (kas_bin fu p k)) (k + fu)
  | 0, p, k, P, h1, hk, S => ⟨trivial, P, S⟩
  | fu + 1, p, k, P, h1, hk, S => by
    rw [kas_bin]
    obtain ⟨a, b, c, d⟩ := place_ev O P (k := k) (by (first | lia | omega)) S k 0 k (Nat.zero_le _) (Nat.le_refl _) (by (first | lia | omega)) (fun i hi => by (first | lia | omega)) (fun i hi hik => by (first | lia | omega))
    have P' := P.bub (k := k) (by (first | lia | omega)) b
    have S' : SoN f (bubble p k (k - kev f (kas_place p k k 0 k))) (k + 1) := fun i j hij hj => by
      rw [bub_at P (by (first | lia | omega)) b (by (first | lia | omega)), bub_at P (by (first | lia | omega)) b (by (first | lia | omega))]
      by_cases e1 : i = kev f (kas_place p k k 0 k)
      · rw [if_pos e1, if_neg (by (first | lia | omega)), if_pos (by (first | lia | omega))]
        exact d _ (by (first | lia | omega)) (by (first | lia | omega))
      · rw [if_neg e1]
        by_cases e2 : j = kev f (kas_place p k k 0 k)
        · rw [if_pos e2, if_neg (by (first | lia | omega))]
          exact c _ (by (first | lia | omega))
        · rw [if_neg e2]
          by_cases e3 : kev f (kas_place p k k 0 k) < i ∧ i ≤ k
          · rw [if_pos e3, if_pos (by (first | lia | omega))]
            exact S _ _ (by (first | lia | omega)) (by (first | lia | omega))
          · rw [if_neg e3]
            by_cases e4 : kev f (kas_place p k k 0 k) < j ∧ j ≤ k
            · rw [if_pos e4]
              exact S _ _ (by (first | lia | omega)) (by (first | lia | omega))
            · rw [if_neg e4]
              exact S _ _ (by (first | lia | omega)) (by (first | lia | omega))
    obtain ⟨a2, b2, c2⟩ := bin_ev O fu _ (k + 1) P' (by (first | lia | omega)) (by (first | lia | omega)) S'
    refine ⟨KIn_bind a a2, ?_, ?_⟩
    · rw [kev_bind]; exact b2
    · rw [kev_bind, show k + (fu + 1) = k + 1 + fu by (first | lia | omega)]; exact c2
theorem sort_ev (O : Ord f n) (hn : 1 ≤ n) : KIn f n (kas_sort n) ∧ PA n (kev f (kas_sort n)) ∧ SoN f (kev f (kas_sort n)) n := by
  obtain ⟨a, m, q, b, P, h1, h2, S⟩ := count_ev O hn (PA.range n)
  unfold kas_sort
  rw [kev_bind, b]
  have hmax : max m 1 = m := by (first | lia | omega)
  by_cases h : m < n
  · obtain ⟨a2, b2, c2⟩ := bin_ev O (n - m) q m P h1 (by (first | lia | omega)) S
    refine ⟨KIn_bind a ?_, ?_, ?_⟩
    · rw [b]; simp only []; rw [if_pos h, hmax]; exact a2
    · simp only []; rw [if_pos h, hmax]; exact b2
    · simp only []; rw [if_pos h, hmax]; rw [show m + (n - m) = n by (first | lia | omega)] at c2; exact c2
  · refine ⟨KIn_bind a ?_, ?_, ?_⟩
    · rw [b]; simp only []; rw [if_neg h]; trivial
    · simp only []; rw [if_neg h]; exact P
    · simp only []; rw [if_neg h, show n = m by (first | lia | omega)]; exact S
end
end text_So
section text_LyZ
set_option maxRecDepth 100000
set_option maxHeartbeats 1000000

section
variable {prog : Program} {w : World} {A : Around} {E : Value → Shared → Prop} {s : Shared} {env : Env} {R : Shared} {B B' : BM} {F : List (Addr × NM)} {μ μ' : Led} {a kS : Addr} {K : Frag} {n : Nat}

theorem All2.getD_rel {α : Type} {rel : α → Value → Prop} {xs : List α} {vs : List Value} (h : All2 rel xs vs) {d : α} {i : Nat} (hi : i < xs.length) : rel (xs.getD i d) (vs.getD i Value.none) := by
  obtain ⟨v, hv, hr⟩ := h.get (i := i) (x := xs.getD i d) (getD_some hi)
  rw [List.getD_eq_getElem?_getD (l := vs), hv]; exact hr
theorem upd_l {xs : Array Value} {e : Nat} {f : Array Value → Array Value} {P' : Obj → Prop} {Q : Unit → Shared → Prop} (X : St R B F μ s) (U : Set1 a (ItP (seqObj "list" xs e)) P' μ μ') (hP : ∀ e', P' (seqObj "list" (f xs) e')) (h1 : xs.size ≤ 1000) (h2 : (f xs).size ≤ 1000)
    (h : ∀ s', St R B F μ' s' → Q () s') : wpAny (model prog w) A (Builtin.List.listUpdate (.ref a) f) Q E s := by
  obtain ⟨o, ho, rfl⟩ := X.get U.mem
  refine listUpdate_at ho rfl (h _ (X.set1 (tk := s.toks) U (Heap.SameBut.update ..) ⟨_, get?_update_seq ho f, hP _⟩)) (by rw [sizeLine_eq]; (first | lia | omega)) (by rw [sizeLine_eq]; (first | lia | omega))

/-- two keys that are pairs, compared by the sort -/
theorem key_lt {x y : PI} {v u : Value} {C : Bool → Shared → Prop} (X : St R B F μ s) (hv : PairB B x v) (hu : PairB B y u) (h : C (ltP x y) s) : wpAny (model prog w) A (keyLt' (tuples' true) v u) C E s := by
  obtain ⟨a1, t1, t2, n1, rfl, h1⟩ := hv
  obtain ⟨a2, t3, t4, n2, rfl, h2⟩ := hu
  refine kat_lt (X.keep _ _ h1) rfl (X.keep _ _ h2) rfl ?_
  show KatLex prog w A true _ C [(.int x.1 t1, .int y.1 t3), (.int x.2 t2, .int y.2 t4)] 0 s
  refine kat_cons (wpAny_eqBool_int ?_)
  unfold ltP at h
  by_cases e1 : x.1 = y.1
  · rw [beq_iff_eq.mpr e1] at h ⊢
    refine kat_yes (kat_cons (wpAny_eqBool_int ?_))
    by_cases e2 : x.2 = y.2
    · rw [beq_iff_eq.mpr e2]
      refine kat_yes (kat_nil ?_)
      have z : (decide (x.1 < y.1) || true && decide (x.2 < y.2)) = false := by simp; (first | lia | omega)
      rw [z] at h
      exact h
    · rw [beq_eq_false_iff_ne.mpr e2]
      refine kat_no (kat_one _ _ (lt_int ?_))
      have z : (decide (x.1 < y.1) || true && decide (x.2 < y.2)) = decide (x.2 < y.2) := by
        have : decide (x.1 < y.1) = false := by simp; (first | lia | omega)
        rw [this]; simp
      rw [z] at h
      exact h
  · rw [beq_eq_false_iff_ne.mpr e1] at h ⊢
    refine kat_no (oneLt_int ?_)
    simp only [Bool.false_and, Bool.or_false] at h
    exact h

theorem pair_tups {h : Heap} (hk : ∀ b o, B b = some o → h.get? b = some o) : ∀ {xs : List PI} {ks : List Value}, All2 (PairB B) xs ks → ∃ fs, KatTups h ks fs ∧ fs.length = ks.length ∧ ∀ v ∈ fs, ∃ i t, v = Value.int i t
  | _, _, .nil => ⟨[], KatTups.nil, rfl, fun v h => by simp at h⟩
  | _, _, .cons ⟨a, t, u, n, e, q⟩ r => by
    subst e
    obtain ⟨fs, h1, h2, h3⟩ := pair_tups hk r
    refine ⟨_ :: fs, KatTups.cons (hk _ _ q) rfl rfl rfl h1, by simp [h2], fun v hv => ?_⟩
    rcases List.mem_cons.mp hv with rfl | hv
    · exact ⟨_, _, rfl⟩
    · exact h3 v hv
theorem kind_p {xs : List PI} {ks : List Value} {Q : SortKind → Shared → Prop} (X : St R B F μ s) (hk : All2 (PairB B) xs ks) (h2 : 2 ≤ ks.length) (h : Q (tuples' true) s) : wpAny (model prog w) A (keyKind' ks.toArray) Q E s := by
  obtain ⟨fs, h1, h3, h4⟩ := pair_tups X.keep hk
  refine kat_kind (T := .type "int") h1 (by (first | lia | omega)) (fun v hv => ?_) (by decide) ?_
  · obtain ⟨i, t, rfl⟩ := h4 v hv
    exact .now
  · rw [show (Value.type "int" != Value.type "tuple") = true by decide]
    exact h

theorem run_p {xs : List PI} {ks vs : List Value} {Q : SortSt → Shared → Prop} (X : St R B F μ s) (hk : All2 (PairB B) xs ks) (hl : ks.length = vs.length) (nd : xs.Nodup) (h2 : 2 ≤ vs.length) (h64 : vs.length < 64)
    (h : ∀ p st', PA vs.length p → SoN (fun i j => ltP (xs.getD i (0, 0)) (xs.getD j (0, 0))) p vs.length → (arrOf st').map (·.2) = List.toArray (p.toList.map fun i => vs.getD i Value.none) → failedOf st' = none → Q st' s) :
    wpAny (model prog w) A ((sortRuns').run (SortSt.mk' (tuples' true) (ks.toArray.zip vs.toArray) #[] 7 none)) (fun r s' => Q r.2 s') E s := by
  have hxl := hk.length
  have O : Ord (fun i j => ltP (xs.getD i (0, 0)) (xs.getD j (0, 0))) vs.length := by
    refine ⟨fun i j hi hj hne hf => ?_, fun i j hi hj hf => ?_, fun i j k hi hj hk' h1 h2 => ?_⟩
    · refine ltP_of_le_ne (by unfold leP; exact hf) fun e => hne ?_
      exact (List.getElem?_inj (i := i) (by (first | lia | omega)) nd).mp (by rw [getD_some (d := (0, 0)) (by (first | lia | omega) : i < xs.length), getD_some (d := (0, 0)) (by (first | lia | omega) : j < xs.length), e])
    · cases q : ltP (xs.getD j (0, 0)) (xs.getD i (0, 0)) with
      | false => rfl
      | true => rw [ltP_iff] at q hf; (first | lia | omega)
    · rw [ltP_iff] at *; (first | lia | omega)
  obtain ⟨a1, a2, a3⟩ := sort_ev O (by (first | lia | omega))
  refine kat_run (G := fun p s' => s' = s ∧ PA vs.length p ∧ SoN (fun i j => ltP (xs.getD i (0, 0)) (xs.getD j (0, 0))) p vs.length) hl h2 h64 (fun p st' s' hp har hf hG => ?_) (kasWp_kev (n := vs.length) (fun i j C hi hj hC => ?_) a1 ⟨rfl, a2, a3⟩)
  · obtain ⟨rfl, q1, q2⟩ := hG
    exact h p st' q1 q2 (kat_snds hl har) hf
  · unfold kas_ask
    exact key_lt X (hk.getD_rel (by (first | lia | omega))) (hk.getD_rel (by (first | lia | omega))) hC

theorem nodup_le : ∀ (n : Nat) (l : List Nat), l.Nodup → (∀ x ∈ l, x < n) → l.length ≤ n
  | 0, [], _, _ => Nat.le_refl _
  | 0, x :: l, _, h => absurd (h x List.mem_cons_self) (Nat.not_lt_zero _)
  | n + 1, l, nd, h => by
    have h1 := nodup_le n (l.erase n) (nd.erase _) fun x hx => by
      have a1 := h x (List.mem_of_mem_erase hx)
      have a2 : x ≠ n := fun e => by subst e; exact nd.not_mem_erase hx
      (first | lia | omega)
    have h2 := List.length_erase (a := n) (l := l)
    split at h2 <;> (first | lia | omega)
theorem PA.perm {p : Array Nat} (P : PA n p) : p.toList.Perm (List.range n) := by
  have hnd : p.toList.Nodup := by
    unfold List.Nodup
    rw [List.pairwise_iff_getElem]
    intro i j hi hj hij e
    rw [Array.length_toList] at hi hj
    have e1 := gA_some hi
    have e2 := gA_some hj
    rw [Array.getElem?_eq_getElem hi] at e1
    rw [Array.getElem?_eq_getElem hj] at e2
    injection e1 with e1
    injection e2 with e2
    rw [Array.getElem_toList, Array.getElem_toList, e1, e2] at e
    have hs := P.sz
    have := P.inj _ _ (by (first | lia | omega)) (by (first | lia | omega)) e
    (first | lia | omega)
  have hsub : ∀ x ∈ p.toList, x < n := fun x hx => by
    obtain ⟨i, hi⟩ := List.mem_iff_getElem?.mp hx
    have hil : i < p.size := by have := (List.getElem?_eq_some_iff.mp hi).1; rwa [Array.length_toList] at this
    rw [Array.getElem?_toList, gA_some hil] at hi
    injection hi with hi
    rw [← hi]; exact P.lt i (by rw [← P.sz]; exact hil)
  refine (List.perm_ext_iff_of_nodup hnd List.nodup_range).mpr fun x => ⟨fun hx => List.mem_range.mpr (hsub x hx), fun hx => ?_⟩
  refine Classical.byContradiction fun hn => ?_
  have := nodup_le n (x :: p.toList) (List.nodup_cons.mpr ⟨hn, hnd⟩) fun y hy => by
    rcases List.mem_cons.mp hy with rfl | hy
    · exact List.mem_range.mp hx
    · exact hsub y hy
  rw [List.length_cons, Array.length_toList, P.sz] at this
  (first | lia | omega)
theorem pick_perm {α : Type} {p : Array Nat} (P : PA n p) {xs : List α} (hl : xs.length = n) (d : α) : (p.toList.map fun i => xs.getD i d).Perm xs := by
  refine (P.perm.map _).trans ?_
  have : (List.range n).map (fun i => xs.getD i d) = xs := by
    refine List.ext_getElem? fun i => ?_
    rw [List.getElem?_map]
    by_cases h : i < n
    · rw [List.getElem?_range h, Option.map_some, getD_some (by (first | lia | omega))]
    · rw [List.getElem?_eq_none (by simp; (first | lia | omega)), List.getElem?_eq_none (by (first | lia | omega))]; rfl
  rw [this]
theorem pick_rel {α : Type} {rel : α → Value → Prop} {xs : List α} {vs : List Value} (h : All2 rel xs vs) (d : α) : ∀ l : List Nat, (∀ i ∈ l, i < xs.length) → All2 rel (l.map fun i => xs.getD i d) (l.map fun i => vs.getD i Value.none)
  | [], _ => .nil
  | i :: l, hl => .cons (h.getD_rel (hl i List.mem_cons_self)) (pick_rel h d l fun j hj => hl j (List.mem_cons_of_mem _ hj))
theorem PA.mem_lt {p : Array Nat} (P : PA n p) : ∀ i ∈ p.toList, i < n := fun i hi => List.mem_range.mp (P.perm.subset hi)
theorem SoN.pair {f : Nat → Nat → Bool} {p : Array Nat} (P : PA n p) (S : SoN f p n) : p.toList.Pairwise fun i j => f i j = true := by
  rw [List.pairwise_iff_getElem]
  intro i j hi hj hij
  rw [Array.length_toList] at hi hj
  have := S i j hij (by rw [← P.sz]; exact hj)
  have e1 := gA_some hi
  have e2 := gA_some hj
  rw [Array.getElem?_eq_getElem hi] at e1
  rw [Array.getElem?_eq_getElem hj] at e2
  injection e1 with e1
  injection e2 with e2
  rw [Array.getElem_toList, Array.getElem_toList, e1, e2]; exact this
end
end text_LyZ
section
set_option compiler.extract_closed false
local macro_rules | `(tactic| walk_at "lk") => `(tactic| first | assumption | exact put_same | (refine put_ne ?_ (by decide); walk_at "lk") | rfl)
local macro_rules | `(tactic| walk_at "mem") => `(tactic| first | exact List.Mem.head _ | assumption | (refine List.Mem.tail _ ?_; walk_at "mem") | (refine List.mem_append_right _ ?_; walk_at "mem"))
local macro_rules | `(tactic| walk_at "set") => `(tactic| first | exact Set1.head | (apply Set1.tail; walk_at "set") | (apply Set1.app; walk_at "set"))
local macro_rules | `(tactic| walk_at "pk") => `(tactic| first | exact Pick.head | (apply Pick.tail; walk_at "pk") | (apply Pick.appR; walk_at "pk") | (apply Pick.appL; walk_at "pk"))
local macro_rules | `(tactic| walk_at "pb") => `(tactic| first | exact PickB.head | exact PickB.all | (apply PickB.tail; walk_at "pb") | (apply PickB.appR; walk_at "pb") | (apply PickB.appL; walk_at "pb"))
local macro_rules | `(tactic| walk_at "pm") => `(tactic| first | exact List.Perm.refl _ | (apply perm_cons_of; walk_at "pk"; walk_at "pm") | (apply perm_app_of; walk_at "pb"; walk_at "pm"))
local macro_rules | `(tactic| walk_at "lat") => `(tactic| first | assumption | exact Or.inr (by walk_at "mem"))
local macro_rules | `(tactic| walk_at "nm") => `(tactic| first | refine name_l (by rfl) (by assumption) (by walk_at "lk") ?_ | refine name_c (by rfl) (by assumption) (by rfl) (by walk_at "mem") ?_ | refine name_g (by rfl) (by assumption) (by assumption) (by rfl) ?_ | refine name_b (by rfl) (by assumption) (by assumption) (by rfl) (by boot_by_name) (by decide) ?_)
set_option hygiene false in
local macro_rules | `(tactic| walk_at "ex") => `(tactic| first
  | (with_reducible first | refine execs_one ?_ | refine wpAny_execs_nil ?_ | refine wpAny_If ?_ | refine wpAny_Return_some ?_ | refine wpAny_Return_none ?_ | refine wpAny_assign_Name ?_ | refine wpAny_assignInOrder_more ?_ | refine wpAny_assignInOrder_none ?_ | refine wpAny_AugAssign_AttributeAny ?_ | refine wpAny_Delete ?_ | refine wpAny_Pass ?_ | refine wpAny_Break ?_ | refine wpAny_Continue ?_)
  | ((with_reducible refine execs_x ?_); intro qN hN)
  | (with_reducible first | refine nx_to (by assumption) ?_ | refine brk_to (by assumption) ?_ | refine cont_to (by assumption) ?_ | refine ret_to (by assumption) ?_)
  | ((with_reducible show wpAny _ _ (exec (Stmt.Assign [Expr.Name _ _] _ _) _) _ _ _); refine wpAny_Assign_Name ?_)
  | ((with_reducible show wpAny _ _ (exec (Stmt.Assign [Expr.Subscript _ _ _] _ _) _) _ _ _); refine wpAny_Assign_Subscript ?_)
  | ((with_reducible show wpAny _ _ (exec (Stmt.Expr _ _) _) _ _ _); refine wpAny_Expr_any ?_)
  | ((with_reducible show wpAny _ _ (exec (Stmt.For _ _ _ _ _) _) _ _ _); refine For_ok ?_)
  | ((with_reducible show wpAny _ _ (assignInOrder (List.map _ (assignEach _ _)) _) _ _ _); dsimp only [assignEach, List.map])
  | ((with_reducible show wpAny _ _ (exec (Stmt.Assign [Expr.Attribute _ _ _] _ _) _) _ _ _); refine plainObj_wpAny_Assign_Attribute ?_)
  | ((with_reducible show wpAny _ _ (exec (Stmt.Assign [_, _] _ _) _) _ _ _); refine wpAny_Assign_two ?_))
local macro_rules | `(tactic| walk_at "ev") => `(tactic| first
  | (with_reducible first | refine wpAny_Constant_none ?_ | refine wpAny_Constant_bool ?_ | refine wpAny_BinOp ?_ | refine Subscript_ ?_ | refine wpAny_NamedExpr ?_ | refine wpAny_UnaryOp ?_ | refine kws_cons ?_ | refine kws_nil ?_ | refine wpAny_IfExp ?_ | refine isTrue_not ?_ | refine isTrue_name ?_ | refine isTrue_subs ?_ | refine isTrue_call ?_ | refine wpAny_tests_one ?_ | refine wpAny_tests_nil ?_ | refine List_ ?_ | refine Tuple_ ?_ | refine not_of ?_ | refine spliced_none ?_ | refine wpAny_truthy_bool ?_ | refine BoolOp_and ?_ | refine BoolOp_or ?_ | refine BoolOp_one ?_ | refine wpAny_isTrue_BoolOp ?_ | refine wpAny_allTrue_And_cons ?_ | refine wpAny_allTrue_And_nil ?_ | refine cw_b0 ?_ | refine if_yes ?_ | refine if_no ?_)
  | ((with_reducible refine name_go ?_); walk_at "nm")
  | ((with_reducible show wpAny _ _ (eval (Expr.Constant (Const.int _) _ _) _) _ _ _); refine @c_int _ _ _ _ _ _ _ _ _ _ _ _ _ _ (by assumption) (fun _ _ _ => ?_))
  | ((with_reducible show wpAny _ _ (eval (Expr.Compare _ [_] [_] _) _) _ _ _); refine wpAny_Compare1 ?_)
  | ((with_reducible show wpAny _ _ (eval (Expr.Attribute (Expr.Name _ _) _ _) _) _ _ _); refine Attribute_Name_ ?_)
  | ((with_reducible show wpAny _ _ (eval (Expr.Attribute _ _ _) _) _ _ _); refine Attribute_any_ ?_)
  | ((with_reducible show wpAny _ _ (eval (Expr.Call (Expr.Attribute _ _ _) _ [] _) _) _ _ _); refine MethodCall_ ?_)
  | ((with_reducible show wpAny _ _ (eval (Expr.Call (Expr.Name _ _) _ [] _) _) _ _ _); refine Call_ ?_)
  | ((with_reducible show wpAny _ _ (eval (Expr.Call (Expr.Name _ _) _ (_ :: _) _) _) _ _ _); refine CallKw_ ?_)
  | ((with_reducible show wpAny _ _ (callWith _ (Value.builtin _) [] _ (backToKw _ (keywordEach (_ :: _) _))) _ _ _); refine callWith_kw ?_)
  | ((with_reducible show wpAny _ _ (isTrue (Expr.Compare _ [_] [_] _) _ _) _ _ _); refine wpAny_isTrue_Compare1 ?_)
  | ((with_reducible show wpAny _ _ (callWith _ (Value.type _) [] (backTo _ (starEach (_ :: _) _)) []) _ _ _); refine PyProof.Rows.callWith_type1 ?_)
  | ((with_reducible show wpAny _ _ (spliced (backTo _ (starEach (_ :: _) _))) _ _ _); refine spliced_more ?_)
  | ((with_reducible show wpAny _ _ (callWith _ (Value.builtin _) _ (backTo _ (starEach (_ :: _) _)) []) _ _ _); refine cw_b ?_)
  | ((with_reducible show wpAny _ _ (callWith _ (Value.ref _) _ (backTo _ (starEach (_ :: _) _)) []) _ _ _); refine cw_fn (by assumption) (by assumption) (by rfl) ?_)
  | ((with_reducible show wpAny _ _ (callWith _ (Value.ref _) _ (backTo _ (starEach [] _)) []) _ _ _); refine cw_fn0 (by assumption) (by assumption) (by rfl) ?_)
  | (with_reducible refine in_and (by assumption) (by assumption) ?_))
local macro_rules | `(tactic| walk_at "op") => `(tactic| first
  | ((with_reducible show wpAny _ _ (binaryOp Operator.Add (Value.int _ _) (Value.int _ _)) _ _ _); refine b_add (by assumption) (fun _ _ _ => ?_))
  | ((with_reducible show wpAny _ _ (binaryOp Operator.Sub (Value.int _ _) (Value.int _ _)) _ _ _); refine b_sub (by assumption) (fun _ _ _ => ?_))
  | ((with_reducible show wpAny _ _ (compareOp CmpOp.Lt (Value.int _ _) (Value.int _ _)) _ _ _); refine lt_int ?_)
  | ((with_reducible show wpAny _ _ (compareOp CmpOp.Gt (Value.int _ _) (Value.int _ _)) _ _ _); refine gt_int ?_)
  | ((with_reducible show wpAny _ _ (compareOp CmpOp.GtE (Value.int _ _) (Value.int _ _)) _ _ _); refine ge_int ?_)
  | ((with_reducible show wpAny _ _ (compareOp CmpOp.Eq (Value.int _ _) (Value.int _ _)) _ _ _); refine eq_int ?_)
  | ((with_reducible show wpAny _ _ (compareOp CmpOp.NotEq (Value.int _ _) (Value.int _ _)) _ _ _); refine ne_int ?_)
  | ((with_reducible show wpAny _ _ (inplaceOp Operator.Add (Value.int _ _) (Value.int _ _)) _ _ _); refine i_add (by assumption) (fun _ _ _ => ?_))
  | ((with_reducible show wpAny _ _ (inplaceOp Operator.Sub (Value.int _ _) (Value.int _ _)) _ _ _); refine i_sub (by assumption) (fun _ _ _ => ?_))
  | ((with_reducible show wpAny _ _ (compareOp CmpOp.Is (Value.ref _) Value.none) _ _ _); refine is_ref_none ?_)
  | ((with_reducible show wpAny _ _ (compareOp CmpOp.IsNot (Value.ref _) Value.none) _ _ _); refine isnot_ref_none ?_)
  | ((with_reducible show wpAny _ _ (compareOp CmpOp.Is (Value.int _ _) Value.none) _ _ _); refine is_int_none ?_)
  | ((with_reducible show wpAny _ _ (compareOp CmpOp.IsNot (Value.int _ _) Value.none) _ _ _); refine isnot_int_none ?_)
  | ((with_reducible show wpAny _ _ (compareOp CmpOp.Is Value.none Value.none) _ _ _); refine wpAny_is_self rfl ?_)
  | ((with_reducible show wpAny _ _ (compareOp CmpOp.IsNot Value.none Value.none) _ _ _); refine wpAny_isNot_self rfl ?_)
  | ((with_reducible show wpAny _ _ (storeName _ _ _) _ _ _); first | refine store_l (by rfl) (by assumption) (fun _ _ => ?_) | refine store_c (by rfl) (by assumption) (by rfl) (by walk_at "set") (fun _ _ => ?_)))
local macro_rules | `(tactic| walk_at "go") => `(tactic| repeat (first | walk_at "ex" | walk_at "ev" | walk_at "op"))
local macro_rules | `(tactic| walk_at "go1") => `(tactic| repeat (first | walk_at "ev" | walk_at "op"))
section text_W1
set_option maxRecDepth 100000
set_option maxHeartbeats 4000000

theorem fdiv2 (p : Nat) (h : 0 < p) : ((p : Int) - 1).fdiv (2 ^ Int.toNat 1) = (((p - 1) / 2 : Nat) : Int) := by
  have : (2 : Int) ^ Int.toNat 1 = 2 := by decide
  rw [this, Int.fdiv_eq_ediv_of_nonneg _ (by decide)]
  (first | lia | omega)

section
variable {w : World} {A : Around} {E : Value → Shared → Prop} {s : Shared} {R : Shared} {B : BM} {F : List (Addr × NM)} {μ μ' : Led} {Q : Value → Shared → Prop}

theorem siftdown_c {l : Addr} {ks : List (Int × Int)} {pos : Nat} {x : Int × Int} {t0 t1 : Tok} (hB : Base (KK w) B) (hA : Cx A 3) (X : St R B F μ s) (hz : ks.length ≤ 1000) (hx : ks[pos]? = some x)
    (U : Set1 l (XL (PairB B) ks) (XL (PairB B) (sdK ks pos x)) μ μ') (k : ∀ s', St R B F μ' s' → Q .none s') :
    wpAny (model PG w) A (call (.ref 176) [.ref l, .int 0 t0, .int pos t1]) Q E s := by
  obtain ⟨ν, p1, p2⟩ := U.front
  have X := X.perm p1
  have hlt : pos < ks.length := (List.getElem?_eq_some_iff.mp hx).1
  refine call_fn (binds := [("heap", .ref l), ("startpos", .int 0 t0), ("pos", .int pos t1)]) hB hA X (by rfl) (by rfl) (BindsTo.of_eq rfl) (locs rfl) fun L A' s₁ hA' hF X₁ En => ?_
  walk_at "go"
  refine get_x X₁ (.inr (.head _)) (by (first | lia | omega)) (by (first | lia | omega)) (by simpa using hx) (fun v hv => ?_)
  walk_at "go"
  rename_i s₂ X₂
  refine While_ok (while_x (fun n s => ∃ m ks' p t, St R B ((L, m) :: F) ((l, XL (PairB B) ks') :: ν) s ∧ m "heap" = some (.ref l) ∧ m "startpos" = some (.int 0 t0) ∧ m "newitem" = some v ∧ m "pos" = some (.int (p : Nat) t) ∧
      ks'.length = ks.length ∧ p < ks.length ∧ sdK ks' p x = sdK ks pos x ∧ n = p) ?_ pos ?_)
  · rintro n s ⟨m, ks', p, t, Y, m1, m2, m3, m4, e1, e2, e3, rfl⟩ Qn Qe En qn qc qb qr qe
    walk_at "go"
    split
    · rename_i hc
      have hc : 0 < n := by simpa using hc
      walk_at "go"
      refine b_shr (by assumption) (by decide) (fun _ _ _ => ?_)
      rw [fdiv2 n hc]
      walk_at "go"
      have hp : (n - 1) / 2 < ks'.length := by (first | lia | omega)
      have hpx : ks'[(n - 1) / 2]? = some (ks'.getD ((n - 1) / 2) (0, 0)) := by
        rw [List.getD_eq_getElem?_getD, List.getElem?_eq_getElem hp]; rfl
      refine get_x (by assumption) (.inr (.head _)) (by (first | lia | omega)) (by (first | lia | omega)) (by rw [Int.toNat_natCast]; exact hpx) (fun u hu => ?_)
      walk_at "go"
      refine lt_pair hA' (by assumption) hv hu ?_
      walk_at "go"
      split
      · rename_i hlt
        walk_at "go"
        refine set_x (by assumption) (by walk_at "set") hu (by (first | lia | omega)) (by (first | lia | omega)) (by (first | lia | omega)) (fun _ _ => ?_)
        walk_at "go"
        refine qc ((n - 1) / 2) _ (by (first | lia | omega)) ⟨_, _, (n - 1) / 2, _, by assumption, by walk_at "lk", by walk_at "lk", by walk_at "lk", by walk_at "lk", by simpa using e1, by (first | lia | omega), ?_, rfl⟩
        rw [← e3, sdK_eq ks' n x, dif_neg (by (first | lia | omega)), if_pos hlt]
        rfl
      · rename_i hlt
        walk_at "go"
        refine qb _ ?_
        walk_at "go"
        refine set_x (by assumption) (by walk_at "set") hv (by (first | lia | omega)) (by (first | lia | omega)) (by (first | lia | omega)) (fun _ Z => ?_)
        walk_at "go"
        refine k _ (Z.leave.perm ?_)
        rw [← e3, sdK_eq ks' n x, dif_neg (by (first | lia | omega)), if_neg hlt] at p2
        exact p2.symm
    · rename_i hc
      have hc : n = 0 := by simpa using hc
      subst hc
      walk_at "go"
      refine qe _ _ ?_
      walk_at "go"
      refine set_x (by assumption) (by walk_at "set") hv (by (first | lia | omega)) (by (first | lia | omega)) (by (first | lia | omega)) (fun _ Z => ?_)
      walk_at "go"
      refine k _ (Z.leave.perm ?_)
      rw [← e3, sdK_eq ks' 0 x, dif_pos rfl] at p2
      exact p2.symm
  · exact ⟨_, ks, pos, t1, X₂, by walk_at "lk", by walk_at "lk", by walk_at "lk", by walk_at "lk", rfl, hlt, rfl, rfl⟩
end
end text_W1
section text_R1
set_option maxRecDepth 100000
set_option maxHeartbeats 4000000

structure NRec where
  dn : Addr
  node : Int
  np : Int
  sl : Addr
  succ : List Int
noncomputable def NIo (r : NRec) : Obj → Prop := fun o => ∃ t1 t2, SlP 40 r.dn [some (.int r.node t1), some (.int r.np t2), some (.ref r.sl)] o
noncomputable def SD (d : Addr) (rv : Value) (np nf : Int) : Obj → Prop := fun o => ∃ m, NsO 4 m o ∧ m "_node2info" = some (.ref d) ∧ m "_ready_nodes" = some rv ∧ (∃ t, m "_npassedout" = some (.int np t)) ∧ (∃ t, m "_nfinished" = some (.int nf t)) ∧
  ∀ n : Str, n ≠ "_node2info" → n ≠ "_ready_nodes" → n ≠ "_npassedout" → n ≠ "_nfinished" → m n = none

section
variable {w : World} {A : Around} {E : Value → Shared → Prop} {s : Shared} {R : Shared} {B : BM} {F : List (Addr × NM)} {μ μ' : Led} {Q : Value → Shared → Prop} {x dx d L : Addr} {rv : Value} {np nf : Int} {expr : Bool} {m : NM}

theorem sget_n2i (hB : Base (KK w) B) (X : St R B F μ s) (hx : B x = some (instObj 137 dx)) (hd : (dx, SD d rv np nf) ∈ μ) (h : ∀ s', St R B F μ s' → Q (.ref d) s') : wpAny (model PG w) A (getAttr (.ref x) "_node2info" expr) Q E s :=
  getattr_o hB X hx hd (fun o ⟨m, hN, h1, h2, h3, h4, h5⟩ => ⟨4, m, _, hN, h1, rfl, h⟩) (by rfl) (by rfl) (by rfl) rfl
theorem sget_ready (hB : Base (KK w) B) (X : St R B F μ s) (hx : B x = some (instObj 137 dx)) (hd : (dx, SD d rv np nf) ∈ μ) (hv : handedIn rv = true) (h : ∀ s', St R B F μ s' → Q rv s') : wpAny (model PG w) A (getAttr (.ref x) "_ready_nodes" expr) Q E s :=
  getattr_o hB X hx hd (fun o ⟨m, hN, h1, h2, h3, h4, h5⟩ => ⟨4, m, _, hN, h2, hv, h⟩) (by rfl) (by rfl) (by rfl) rfl
theorem sget_np (hB : Base (KK w) B) (X : St R B F μ s) (hx : B x = some (instObj 137 dx)) (hd : (dx, SD d rv np nf) ∈ μ) (h : ∀ t s', St R B F μ s' → Q (.int np t) s') : wpAny (model PG w) A (getAttr (.ref x) "_npassedout" expr) Q E s :=
  getattr_o hB X hx hd (fun o ⟨m, hN, h1, h2, ⟨t, h3⟩, h4, h5⟩ => ⟨4, m, _, hN, h3, rfl, h t⟩) (by rfl) (by rfl) (by rfl) rfl
theorem sget_nf (hB : Base (KK w) B) (X : St R B F μ s) (hx : B x = some (instObj 137 dx)) (hd : (dx, SD d rv np nf) ∈ μ) (h : ∀ t s', St R B F μ s' → Q (.int nf t) s') : wpAny (model PG w) A (getAttr (.ref x) "_nfinished" expr) Q E s :=
  getattr_o hB X hx hd (fun o ⟨m, hN, h1, h2, h3, ⟨t, h4⟩, h5⟩ => ⟨4, m, _, hN, h4, rfl, h t⟩) (by rfl) (by rfl) (by rfl) rfl

theorem sset_ready {rv' : Value} {Q : Unit → Shared → Prop} (hB : Base (KK w) B) (X : St R B F μ s) (hx : B x = some (instObj 137 dx)) (U : Set1 dx (SD d rv np nf) (SD d rv' np nf) μ μ') (h : ∀ s', St R B F μ' s' → Q () s') : wpAny (model PG w) A (setAttr (.ref x) "_ready_nodes" rv') Q E s :=
  setattr_o hB X hx U (fun o ⟨m, hN, h1, h2, ⟨t3, h3⟩, ⟨t4, h4⟩, h5⟩ => ⟨4, m, by decide, hN, fun o' h' => ⟨_, by rw [h2] at h'; exact h', put_ne h1 (by decide), put_same, ⟨t3, put_ne h3 (by decide)⟩, ⟨t4, put_ne h4 (by decide)⟩, fun n a b c d => put_ne (h5 n a b c d) b⟩⟩) (by rfl) (by rfl) (by rfl) (by rfl) h
theorem sset_np {v : Int} {t : Tok} {Q : Unit → Shared → Prop} (hB : Base (KK w) B) (X : St R B F μ s) (hx : B x = some (instObj 137 dx)) (U : Set1 dx (SD d rv np nf) (SD d rv v nf) μ μ') (h : ∀ s', St R B F μ' s' → Q () s') : wpAny (model PG w) A (setAttr (.ref x) "_npassedout" (.int v t)) Q E s :=
  setattr_o hB X hx U (fun o ⟨m, hN, h1, h2, ⟨t3, h3⟩, ⟨t4, h4⟩, h5⟩ => ⟨4, m, by decide, hN, fun o' h' => ⟨_, by rw [h3] at h'; exact h', put_ne h1 (by decide), put_ne h2 (by decide), ⟨t, put_same⟩, ⟨t4, put_ne h4 (by decide)⟩, fun n a b c d => put_ne (h5 n a b c d) c⟩⟩) (by rfl) (by rfl) (by rfl) (by rfl) h
theorem sset_nf {v : Int} {t : Tok} {Q : Unit → Shared → Prop} (hB : Base (KK w) B) (X : St R B F μ s) (hx : B x = some (instObj 137 dx)) (U : Set1 dx (SD d rv np nf) (SD d rv np v) μ μ') (h : ∀ s', St R B F μ' s' → Q () s') : wpAny (model PG w) A (setAttr (.ref x) "_nfinished" (.int v t)) Q E s :=
  setattr_o hB X hx U (fun o ⟨m, hN, h1, h2, ⟨t3, h3⟩, ⟨t4, h4⟩, h5⟩ => ⟨4, m, by decide, hN, fun o' h' => ⟨_, by rw [h4] at h'; exact h', put_ne h1 (by decide), put_ne h2 (by decide), ⟨t3, put_ne h3 (by decide)⟩, ⟨t, put_same⟩, fun n a b c d => put_ne (h5 n a b c d) d⟩⟩) (by rfl) (by rfl) (by rfl) (by rfl) h
theorem smeth {name : Str} {f : Addr} {pl : Sem Bool} {Q : Value × List Value → Shared → Prop} (hB : Base (KK w) B) (X : St R B F μ s) (hx : B x = some (instObj 137 dx)) (hd : (dx, SD d rv np nf) ∈ μ) (hf : findIn (KK w) (.ref 137) name = some (some (.ref f))) (ht : typeIn (KK w) (.ref f) = some (.type "function"))
    (h : Q (.ref f, [.ref x]) s) (h1 : name ≠ "_node2info" := by decide) (h2 : name ≠ "_ready_nodes" := by decide) (h3 : name ≠ "_npassedout" := by decide) (h4 : name ≠ "_nfinished" := by decide) :
    wpAny (model PG w) A (getMethod (.ref x) name pl) Q E s :=
  method_o hB X hx hd (fun o ⟨m, hN, _, _, _, _, h5⟩ => ⟨4, m, hN, h5 name h1 h2 h3 h4⟩) (by rfl) (by rfl) hf ht h

variable {r : NRec} {a : Addr}
theorem nget_node (hB : Base (KK w) B) (X : St R B F μ s) (ha : (a, NIo r) ∈ μ) (hdn : B r.dn = some emptyDict) (h : ∀ t s', St R B F μ s' → Q (.int r.node t) s') : wpAny (model PG w) A (getAttr (.ref a) "node" expr) Q E s :=
  slotget_o (p := 41) (i := 0) hB X ha hdn (fun o ⟨t1, t2, hS⟩ => ⟨_, _, hS, rfl, rfl, h t1⟩) (by rfl) (by rfl) (by rfl) (by rfl)
theorem nget_np (hB : Base (KK w) B) (X : St R B F μ s) (ha : (a, NIo r) ∈ μ) (hdn : B r.dn = some emptyDict) (h : ∀ t s', St R B F μ s' → Q (.int r.np t) s') : wpAny (model PG w) A (getAttr (.ref a) "npredecessors" expr) Q E s :=
  slotget_o (p := 42) (i := 1) hB X ha hdn (fun o ⟨t1, t2, hS⟩ => ⟨_, _, hS, rfl, rfl, h t2⟩) (by rfl) (by rfl) (by rfl) (by rfl)
theorem nget_succ (hB : Base (KK w) B) (X : St R B F μ s) (ha : (a, NIo r) ∈ μ) (hdn : B r.dn = some emptyDict) (h : ∀ s', St R B F μ s' → Q (.ref r.sl) s') : wpAny (model PG w) A (getAttr (.ref a) "successors" expr) Q E s :=
  slotget_o (p := 43) (i := 2) hB X ha hdn (fun o ⟨t1, t2, hS⟩ => ⟨_, _, hS, rfl, rfl, h⟩) (by rfl) (by rfl) (by rfl) (by rfl)
theorem nset_np {v : Int} {t : Tok} {Q : Unit → Shared → Prop} (hB : Base (KK w) B) (X : St R B ((L, m) :: F) μ s) (hdn : B r.dn = some emptyDict) (U : Set1 a (NIo r) (NIo { r with np := v }) μ μ') (h : ∀ s', St R B ((L, m) :: F) μ' s' → Q () s') :
    wpAny (model PG w) A (setAttr (.ref a) "npredecessors" (.int v t)) Q E s :=
  slotset_o (p := 42) (i := 1) hB X hdn U (fun o ⟨t1, t2, hS⟩ => ⟨_, hS, fun o' h' => ⟨t1, t, h'⟩⟩) (by rfl) (by rfl) (by rfl) (by rfl) (by rfl) (by decide) h

theorem nodeinfo_new {n : Int} {t : Tok} (hB : Base (KK w) B) (hA : Cx A 4) (X : St R B F μ s)
    (k : ∀ B' a r s', Sub B B' → Base (KK w) B' → r.node = n → r.np = 0 → r.succ = [] → B' r.dn = some emptyDict → St R B' F ((a, NIo r) :: (r.sl, XL IntV r.succ) :: μ) s' → Q (.ref a) s') :
    wpAny (model PG w) A (call (.ref 40) [.int n t]) Q E s := by
  refine make_x (fI := 36) hB hA X (by rfl) (by rfl) (by rfl) fun x dx A' s' hA' X' => ?_
  obtain ⟨B', hs, ⟨_, hdx, rfl⟩, _, X'⟩ := (X'.perm (.swap _ _ _)).freeze
  have hB' := hB.sub hs
  have X' := X'.weak1 (P' := SlP 40 dx []) (fun o ho => ho)
  refine code_fn (binds := [("self", .ref x), ("node", .int n t)]) hB' hA' X' (by rfl) (by rfl) (BindsTo.of_eq rfl) (locs rfl) fun L A2 s₁ hA2 hF X₁ En => ?_
  walk_at "go"
  refine slotset (p := 41) (i := 0) hB' (by assumption) hdx .head rfl (by rfl) (by rfl) (by rfl) (by rfl) (by rfl) (by decide) (fun s2 X2 => ?_)
  walk_at "go"
  refine slotset (p := 42) (i := 1) hB' (by assumption) hdx .head rfl (by rfl) (by rfl) (by rfl) (by rfl) (by rfl) (by decide) (fun s3 X3 => ?_)
  walk_at "go"
  refine newLst_ (P := XL IntV []) (by assumption) (fun c => ⟨[], .nil, c, rfl⟩) (by decide) (fun sl s4 X4 => ?_)
  walk_at "go"
  refine slotset (p := 43) (i := 2) hB' (by assumption) hdx (.tail .head) rfl (by rfl) (by rfl) (by rfl) (by rfl) (by rfl) (by decide) (fun s5 X5 => ?_)
  walk_at "go"
  refine ⟨rfl, k B' x ⟨dx, n, 0, sl, []⟩ _ hs hB' rfl rfl rfl hdx ?_⟩
  exact (X5.leave.perm (.swap _ _ _)).weak1 fun o ho => ⟨_, _, ho⟩
end
end text_R1
section text_R2
set_option maxRecDepth 100000
set_option maxHeartbeats 4000000

theorem assign_sub {M : Model} {A : Around} {E : Value → Shared → Prop} {s : Shared} {env : Env} {o i : Expr} {pos : Pos} {v : Value} {Q : Unit → Shared → Prop}
    (h : wpAny M A (eval o env) (fun ov s₁ => wpAny M A (eval i env) (fun iv s₂ => wpAny M A (setItem ov iv v) Q E s₂) E s₁) E s) (hi : ∀ a b c d, i ≠ .Slice a b c d := by intro _ _ _ _ h; cases h) : wpAny M A (assign (.Subscript o i pos) env v) Q E s := by
  rw [assign_Subscript]
  refine wpAny_bind (wpAny_holding (wpAny_mono h (fun ov s₁ h₁ => wpAny_bind (wpAny_holding (wpAny_mono h₁ (fun iv s₂ h₂ => wpAny_bind (wpAny_standAt (wpAny_bind (wpAny_holding (wpAny_mono h₂ (fun _ s₃ h₃ => ?_) fun _ _ e => e))))) fun _ _ e => e))) fun _ _ e => e))
  exact wpAny_release h₃

section
variable {w : World} {A : Around} {E : Value → Shared → Prop} {s : Shared} {R : Shared} {B : BM} {F : List (Addr × NM)} {μ μ' : Led} {Q : Value → Shared → Prop} {x dx d L : Addr} {rv : Value} {np nf : Int} {expr : Bool} {m : NM}

theorem sorter_new (hB : Base (KK w) B) (hA : Cx A 4) (X : St R B F μ s)
    (k : ∀ B' x dx d s', Sub B B' → Base (KK w) B' → B' x = some (instObj 137 dx) → St R B' F ((dx, SD d .none 0 0) :: (d, DI PG w d []) :: μ) s' → Q (.ref x) s') :
    wpAny (model PG w) A (call (.ref 137) []) Q E s := by
  refine make_x (fI := 73) hB hA X (by rfl) (by rfl) (by rfl) fun x dx A' s' hA' X' => ?_
  obtain ⟨B', hs, ⟨_, hx, rfl⟩, _, X'⟩ := X'.freeze
  have hB' := hB.sub hs
  have X' := X'.weak1 (P' := NsO 0 fun _ => none) (fun o ho => by cases ho; exact ⟨#[], 0, rfl, fun e he => by simp at he, by simp, fun _ => rfl⟩)
  refine code_fn (binds := [("self", .ref x), ("graph", .none)]) hB' hA' X' (by rfl) (by rfl) (BindsTo.of_defaults (T := 66) rfl (hB'.inH X' _ _ (by rfl)) rfl rfl rfl) (locs rfl) fun L A2 s₁ hA2 hF X₁ En => ?_
  walk_at "go"
  refine newDict_x (prog := PG) (w := w) hB' (by assumption) (fun d s2 X2 => ?_)
  walk_at "go"
  refine setattr_d (k' := 1) hB' (by assumption) hx (.tail .head) (by rfl) (by (first | lia | omega)) (by rfl) (by rfl) (by rfl) (by rfl) (fun s3 X3 => ?_)
  walk_at "go"
  refine setattr_d (k' := 2) hB' (by assumption) hx (.tail .head) (by rfl) (by (first | lia | omega)) (by rfl) (by rfl) (by rfl) (by rfl) (fun s4 X4 => ?_)
  walk_at "go"
  refine setattr_d (k' := 3) hB' (by assumption) hx (.tail .head) (by rfl) (by (first | lia | omega)) (by rfl) (by rfl) (by rfl) (by rfl) (fun s5 X5 => ?_)
  walk_at "go"
  refine setattr_d (k' := 4) hB' (by assumption) hx (.tail .head) (by rfl) (by (first | lia | omega)) (by rfl) (by rfl) (by rfl) (by rfl) (fun s6 X6 => ?_)
  walk_at "go"
  refine ⟨rfl, k B' x dx d _ hs hB' hx ?_⟩
  refine (X6.leave.perm (.swap _ _ _)).weak1 fun o ho => ⟨_, ho, by walk_at "lk", by walk_at "lk", ⟨_, by walk_at "lk"⟩, ⟨_, by walk_at "lk"⟩, fun n h1 h2 h3 h4 => put_ne (put_ne (put_ne (put_ne rfl h1) h2) h3) h4⟩
end
end text_R2
section text_R3
set_option maxRecDepth 100000
set_option maxHeartbeats 4000000

structure PN where
  node : Int
  np : Int
  succ : List Int
noncomputable abbrev Nd := Addr × NRec
noncomputable def pn (n : Nd) : PN := ⟨n.2.node, n.2.np, n.2.succ⟩
noncomputable def ndL (ns : List Nd) : Led := ns.flatMap fun n => [(n.1, NIo n.2), (n.2.sl, XL IntV n.2.succ)]
noncomputable def kvOf (ns : List Nd) : List (Int × Value) := ns.map fun n => (n.2.node, .ref n.1)
noncomputable def upd {α : Type} (f : Int → α) (k : Int) (v : α) : Int → α := fun x => if x = k then v else f x
structure Nod (B : BM) (ns : List Nd) (keys : List Int) (N : Int → Int) (S : Int → List Int) : Prop where
  rep : ns.map pn = keys.map fun k => ⟨k, N k, S k⟩
  nd : keys.Nodup
  dn : ∀ n ∈ ns, B n.2.dn = some emptyDict
theorem ndL_cons (n : Nd) (ns : List Nd) : ndL (n :: ns) = (n.1, NIo n.2) :: (n.2.sl, XL IntV n.2.succ) :: ndL ns := by unfold ndL; rw [List.flatMap_cons]; rfl
theorem ndL_snoc (ns : List Nd) (n : Nd) : ndL (ns ++ [n]) = ndL ns ++ [(n.1, NIo n.2), (n.2.sl, XL IntV n.2.succ)] := by unfold ndL; rw [List.flatMap_append]; simp
theorem ndL_mem1 {μ : Led} : ∀ {ns : List Nd} {i : Nat} {n : Nd}, ns[i]? = some n → (n.1, NIo n.2) ∈ ndL ns ++ μ
  | [], _, _, h => by simp at h
  | m :: ns, 0, n, h => by simp at h; subst h; rw [ndL_cons]; exact .head _
  | m :: ns, i + 1, n, h => by rw [ndL_cons]; exact .tail _ (.tail _ (ndL_mem1 (i := i) (by simpa using h)))
theorem ndL_mem2 {μ : Led} : ∀ {ns : List Nd} {i : Nat} {n : Nd}, ns[i]? = some n → (n.2.sl, XL IntV n.2.succ) ∈ ndL ns ++ μ
  | [], _, _, h => by simp at h
  | m :: ns, 0, n, h => by simp at h; subst h; rw [ndL_cons]; exact .tail _ (.head _)
  | m :: ns, i + 1, n, h => by rw [ndL_cons]; exact .tail _ (.tail _ (ndL_mem2 (i := i) (by simpa using h)))
theorem ndL_np {μ : Led} {v : Int} : ∀ {ns : List Nd} {i : Nat} {n : Nd}, ns[i]? = some n → Set1 n.1 (NIo n.2) (NIo { n.2 with np := v }) (ndL ns ++ μ) (ndL (ns.set i (n.1, { n.2 with np := v })) ++ μ)
  | [], _, _, h => by simp at h
  | m :: ns, 0, n, h => by simp at h; subst h; rw [List.set_cons_zero, ndL_cons, ndL_cons]; exact .head
  | m :: ns, i + 1, n, h => by rw [List.set_cons_succ, ndL_cons, ndL_cons]; exact .tail (.tail (ndL_np (by simpa using h)))
theorem ndL_succ {μ : Led} {v : List Int} : ∀ {ns : List Nd} {i : Nat} {n : Nd}, ns[i]? = some n → Set1 n.2.sl (XL IntV n.2.succ) (XL IntV v) (ndL ns ++ μ) (ndL (ns.set i (n.1, { n.2 with succ := v })) ++ μ)
  | [], _, _, h => by simp at h
  | m :: ns, 0, n, h => by simp at h; subst h; rw [List.set_cons_zero, ndL_cons, ndL_cons]; exact .tail .head
  | m :: ns, i + 1, n, h => by rw [List.set_cons_succ, ndL_cons, ndL_cons]; exact .tail (.tail (ndL_succ (by simpa using h)))

section
variable {B B' : BM} {ns : List Nd} {keys : List Int} {N : Int → Int} {S : Int → List Int} {k : Int} {i : Nat} {n : Nd}
theorem Nod.sub (h : Nod B ns keys N S) (hs : Sub B B') : Nod B' ns keys N S := ⟨h.rep, h.nd, fun n hn => hs _ _ (h.dn n hn)⟩
theorem Nod.len (h : Nod B ns keys N S) : ns.length = keys.length := by have := congrArg List.length h.rep; simpa using this
theorem Nod.kv (h : Nod B ns keys N S) : (kvOf ns).map (·.1) = keys := by
  have := congrArg (List.map PN.node) h.rep
  simpa [kvOf, pn, Function.comp_def] using this
theorem Nod.at_ (h : Nod B ns keys N S) (hi : keys[i]? = some k) : ∃ n, ns[i]? = some n ∧ n.2.node = k ∧ n.2.np = N k ∧ n.2.succ = S k ∧ (kvOf ns)[i]? = some (k, .ref n.1) := by
  have hl := h.len
  have hlt : i < ns.length := by rw [hl]; exact (List.getElem?_eq_some_iff.mp hi).1
  have e := congrArg (·[i]?) h.rep
  simp only [List.getElem?_map, hi, List.getElem?_eq_getElem hlt, Option.map_some, Option.some.injEq] at e
  unfold pn at e
  injection e with e1 e2 e3
  refine ⟨ns[i], List.getElem?_eq_getElem hlt, e1, e2, e3, ?_⟩
  unfold kvOf
  rw [List.getElem?_map, List.getElem?_eq_getElem hlt, Option.map_some, e1]
theorem Nod.val (h : Nod B ns keys N S) (hi : (kvOf ns)[i]? = some (k, .ref n.1)) : valueAt (kvOf ns) k = some (.ref n.1) :=
  valueAt_of_get (by rw [h.kv]; exact h.nd) hi
theorem Nod.get (h : Nod B ns keys N S) (hk : k ∈ keys) : ∃ (i : Nat) (n : Nd), keys[i]? = some k ∧ ns[i]? = some n ∧ n.2.node = k ∧ n.2.np = N k ∧ n.2.succ = S k ∧ valueAt (kvOf ns) k = some (.ref n.1) ∧ B n.2.dn = some emptyDict := by
  obtain ⟨i, hi⟩ := List.mem_iff_getElem?.mp hk
  obtain ⟨n, h1, h2, h3, h4, h5⟩ := h.at_ hi
  exact ⟨i, n, hi, h1, h2, h3, h4, h.val h5, h.dn n (List.mem_of_getElem? h1)⟩
theorem Nod.none (h : Nod B ns keys N S) (hk : k ∉ keys) : valueAt (kvOf ns) k = none := valueAt_none_of_not_mem (by rw [h.kv]; exact hk)
theorem set_eq_map {α β : Type} {f f' : α → β} {k : α} : ∀ {keys : List α} {i : Nat}, keys.Nodup → keys[i]? = some k → (∀ x, x ≠ k → f' x = f x) → (keys.map f).set i (f' k) = keys.map f'
  | [], _, _, h, _ => by simp at h
  | a :: keys, 0, nd, h, hf => by
    simp at h; subst h
    simp only [List.nodup_cons] at nd
    simp only [List.map_cons, List.set_cons_zero, List.cons.injEq, true_and]
    exact List.map_congr_left fun x hx => (hf x fun e => nd.1 (e ▸ hx)).symm
  | a :: keys, i + 1, nd, h, hf => by
    simp only [List.nodup_cons] at nd
    have h : keys[i]? = some k := by simpa using h
    simp only [List.map_cons, List.set_cons_succ, List.cons.injEq]
    exact ⟨(hf a fun e => nd.1 (e ▸ List.mem_of_getElem? h)).symm, set_eq_map nd.2 h hf⟩
theorem Nod.setNp (h : Nod B ns keys N S) (hi : keys[i]? = some k) (hn : ns[i]? = some n) (v : Int) (e2 : n.2.node = k) (e3 : n.2.succ = S k) : Nod B (ns.set i (n.1, { n.2 with np := v })) keys (upd N k v) S := by
  refine ⟨?_, h.nd, fun m hm => ?_⟩
  · rw [List.map_set, h.rep]
    have := set_eq_map (f := fun k => (⟨k, N k, S k⟩ : PN)) (f' := fun x => ⟨x, upd N k v x, S x⟩) h.nd hi (fun x hx => by unfold upd; rw [if_neg hx])
    rw [← this]
    unfold pn upd
    simp only [e2, e3, if_true]
  · rcases List.mem_or_eq_of_mem_set hm with hm | rfl
    · exact h.dn m hm
    · exact h.dn n (List.mem_of_getElem? hn)
theorem Nod.setSucc (h : Nod B ns keys N S) (hi : keys[i]? = some k) (hn : ns[i]? = some n) (v : List Int) (e2 : n.2.node = k) (e3 : n.2.np = N k) : Nod B (ns.set i (n.1, { n.2 with succ := v })) keys N (upd S k v) := by
  refine ⟨?_, h.nd, fun m hm => ?_⟩
  · rw [List.map_set, h.rep]
    have := set_eq_map (f := fun k => (⟨k, N k, S k⟩ : PN)) (f' := fun x => ⟨x, N x, upd S k v x⟩) h.nd hi (fun x hx => by unfold upd; rw [if_neg hx])
    rw [← this]
    unfold pn upd
    simp only [e2, e3, if_true]
  · rcases List.mem_or_eq_of_mem_set hm with hm | rfl
    · exact h.dn m hm
    · exact h.dn n (List.mem_of_getElem? hn)
theorem kvOf_set {n' : Nd} (hn : ns[i]? = some n) (h1 : n'.1 = n.1) (h2 : n'.2.node = n.2.node) : kvOf (ns.set i n') = kvOf ns := by
  unfold kvOf
  rw [List.map_set, h1, h2]
  refine List.ext_getElem? fun j => ?_
  rw [List.getElem?_set, List.length_map]
  split
  · rename_i e; subst e
    rw [List.getElem?_map, hn]
    split
    · rfl
    · rename_i hh; exact absurd (List.getElem?_eq_some_iff.mp hn).1 hh
  · rfl
end

section
variable {w : World} {A : Around} {E : Value → Shared → Prop} {s : Shared} {R : Shared} {B : BM} {F : List (Addr × NM)} {μ μ' : Led} {Q : Value → Shared → Prop} {x dx d L : Addr} {rv : Value} {np nf : Int} {expr : Bool} {m : NM}
  {ns : List Nd} {keys : List Int} {N : Int → Int} {S : Int → List Int}

noncomputable def addKey (keys : List Int) (k : Int) : List Int := if k ∈ keys then keys else keys ++ [k]
theorem addKey_mem {keys : List Int} {k x : Int} : x ∈ addKey keys k ↔ x ∈ keys ∨ x = k := by
  unfold addKey; split
  · rename_i h; constructor
    · exact .inl
    · rintro (h' | rfl); exact h'; exact h
  · simp

theorem getinfo_c {k : Int} {t : Tok} (hB : Base (KK w) B) (hA : Cx A 6) (hx : B x = some (instObj 137 dx)) (D : Nod B ns keys N S) (hz : keys.length ≤ 100) (hout : ∀ k, k ∉ keys → N k = 0 ∧ S k = [])
    (X : St R B F ((dx, SD d rv np nf) :: (d, DI PG w d (kvOf ns)) :: (ndL ns ++ μ)) s)
    (K : ∀ (B' : BM) (ns' : List Nd) (i : Nat) (n : Nd) (s' : Shared), Sub B B' → Base (KK w) B' → Nod B' ns' (addKey keys k) N S → (addKey keys k)[i]? = some k → ns'[i]? = some n → n.2.node = k → n.2.np = N k → n.2.succ = S k → B' n.2.dn = some emptyDict →
      St R B' F ((dx, SD d rv np nf) :: (d, DI PG w d (kvOf ns')) :: (ndL ns' ++ μ)) s' → Q (.ref n.1) s') :
    wpAny (model PG w) A (call (.ref 80) [.ref x, .int k t]) Q E s := by
  refine call_fn (binds := [("self", .ref x), ("node", .int k t)]) hB hA X (by rfl) (by rfl) (BindsTo.of_eq rfl) (locs rfl) fun L A' s₁ hA' hF X₁ En => ?_
  walk_at "go"
  refine sget_n2i hB (by assumption) hx (.head _) (fun s2 X2 => ?_)
  refine dget_m (prog := PG) (w := w) (by assumption) (.inr (.tail _ (.head _))) ?_
  walk_at "go"
  refine dget_x (prog := PG) (w := w) (by assumption) (.inr (.tail _ (.head _))) (fun s3 X3 => ?_)
  by_cases hk : k ∈ keys
  · obtain ⟨i, n, h1, h2, h3, h4, h5, h6, h7⟩ := D.get hk
    have ek : addKey keys k = keys := by unfold addKey; rw [if_pos hk]
    rw [ek] at K
    rw [h6, Option.getD_some]
    walk_at "go"
    exact K B ns i n _ (Sub.refl _) hB D h1 h2 h3 h4 h5 h7 (by rename_i Z; exact Z.leave)
  · have ek : addKey keys k = keys ++ [k] := by unfold addKey; rw [if_neg hk]
    rw [ek] at K
    rw [D.none hk, Option.getD_none]
    walk_at "go"
    refine nodeinfo_new hB (hA'.le (by decide)) (by assumption) (fun B' a r s4 hs hB' e1 e2 e3 e4 X4 => ?_)
    have D' := D.sub hs
    have hx' := hs _ _ hx
    walk_at "go"
    refine assign_sub ?_
    walk_at "go"
    refine sget_n2i hB' (by assumption) hx' (.tail _ (.tail _ (.head _))) (fun s5 X5 => ?_)
    walk_at "go"
    refine dset_x (prog := PG) (w := w) (by assumption) (.tail (.tail (.tail .head))) (by unfold kvOf; rw [List.length_map, D.len]; (first | lia | omega)) (fun s6 X6 => ?_)
    walk_at "go"
    have ekv : stored (kvOf ns) k (.ref a) = kvOf (ns ++ [(a, r)]) := by
      rw [stored_absent (D.none hk)]
      unfold kvOf; rw [List.map_append]; simp [e1]
    have hN := hout k hk
    have D2 : Nod B' (ns ++ [(a, r)]) (keys ++ [k]) N S := by
      refine ⟨?_, ?_, fun m hm => ?_⟩
      · rw [List.map_append, List.map_append, D'.rep]
        simp [pn, e1, e2, e3, hN.1, hN.2]
      · rw [List.nodup_append]
        refine ⟨D.nd, by simp, fun a ha b hb e => ?_⟩
        simp at hb
        exact hk (by rw [← hb, ← e]; exact ha)
      · rcases List.mem_append.mp hm with hm | hm
        · exact D'.dn m hm
        · simp at hm; subst hm; exact e4
    rename_i Z
    refine K B' (ns ++ [(a, r)]) ns.length (a, r) _ hs hB' D2 (by rw [D.len]; simp) (by simp) e1 (e2.trans hN.1.symm) (e3.trans hN.2.symm) e4 ?_
    rw [ekv] at Z
    refine Z.leave.perm ?_
    rw [ndL_snoc]
    walk_at "pm"
end
end text_R3
section text_R4
set_option maxRecDepth 100000
set_option maxHeartbeats 4000000

noncomputable def addK (keys : List Int) (ps : List Int) : List Int := ps.foldl addKey keys
noncomputable def addS (S : Int → List Int) (k : Int) (ps : List Int) : Int → List Int := ps.foldl (fun S p => upd S p (S p ++ [k])) S
theorem addK_snoc (keys ps : List Int) (p : Int) : addK keys (ps ++ [p]) = addKey (addK keys ps) p := by unfold addK; rw [List.foldl_append]; rfl
theorem addS_snoc (S : Int → List Int) (k : Int) (ps : List Int) (p : Int) : addS S k (ps ++ [p]) = upd (addS S k ps) p (addS S k ps p ++ [k]) := by unfold addS; rw [List.foldl_append]; rfl
theorem addKey_len (keys : List Int) (k : Int) : (addKey keys k).length ≤ keys.length + 1 := by unfold addKey; split <;> simp
theorem addK_len (keys : List Int) : ∀ ps, (addK keys ps).length ≤ keys.length + ps.length := by
  intro ps
  induction ps generalizing keys with
  | nil => simp [addK]
  | cons p ps ih => have h1 := ih (addKey keys p); have h2 := addKey_len keys p; simp only [addK, List.foldl_cons, List.length_cons] at h1 ⊢; (first | lia | omega)
theorem addS_len (k : Int) (x : Int) : ∀ (ps : List Int) (S : Int → List Int), (addS S k ps x).length ≤ (S x).length + ps.length := by
  intro ps
  induction ps with
  | nil => intro S; simp [addS]
  | cons p ps ih =>
    intro S
    have h1 := ih (upd S p (S p ++ [k]))
    have h2 : (upd S p (S p ++ [k]) x).length ≤ (S x).length + 1 := by unfold upd; split <;> simp_all
    simp only [addS, List.foldl_cons, List.length_cons] at h1 ⊢; (first | lia | omega)

section
variable {prog : Program} {w : World} {A : Around} {E : Value → Shared → Prop} {s : Shared} {env : Env} {R : Shared} {B B' : BM} {F : List (Addr × NM)} {μ μ' : Led} {L I : Addr} {m m' : NM} {K : Frag} {n : Nat}
  {name qual : Str} {params : Arguments} {body : List Stmt} {scope : Scope} {dV kV doc pm cdv ct oc : Value} {an od : Option Addr} {osl : Array (Option Value)} {f : Addr} {pos : List Value} {kw : List (Str × Value)}
/-- a call of a def with a star parameter, as code -/
theorem code_fnVc {vs : List Value} {front : List (Str × Value)} {nr : Str} {Q : Value → Shared → Prop} (hB : Base K B) (hA : Cx A (n + 1)) (X : St R B F μ s)
    (ho : K.lookup f = some ⟨oc, od, .func (fnOf name qual params body scope dV kV doc pm an cdv ct), osl⟩) (hcd : codeIn K cdv qual = true)
    (hbind : bindArgs (fnOf name qual params body scope dV kV doc pm an cdv ct) ⟨pos, kw⟩ = newTuple vs >>= fun v => pure (front ++ [(nr, v)])) (hz : vs.length ≤ 1000)
    (hloc : ∀ v, ∀ y ∈ front ++ [(nr, v)], scope.names.lookup y.1 = some .local)
    (h : ∀ L A' B' a s₁, Cx A' n → A'.frames = A.frames.map (envOf qual scope L f cdv :: ·) → Sub B B' → Base K B' → TupB B' a vs → St R B' ((L, fun y => (front ++ [(nr, Value.ref a)]).reverse.lookup y) :: F) μ s₁ →
      ∀ En : Value → Shared → Prop, wpAny (model prog w) A' (execs body (envOf qual scope L f cdv)) (fun fl s' => Q (retV fl) s') En s₁)
    (hco : scope.isCoroutine = false := by rfl) (hgen : scope.isGenerator = false := by rfl) (hk : scope.kind = .function := by rfl) (hcell : ∀ x ∈ scope.names, x.2 ≠ .cell := by decide) :
    codeAny (model prog w) A (.call (.ref f) ⟨pos, kw⟩) (fun r s' => match r with | .ok (.ret v) => Q v s' | .ok _ => False | .error e => E e s') s := by
  obtain ⟨H, p, l, me, mg, mb, a, b, c⟩ := id hB.top
  have hk' : ∀ y o, H.get? y = some o → s.heap.get? y = some o := fun y o e => X.keep y o (a y o e)
  have KX : K.In s.heap := fun y o e => hk' _ _ (b y o e)
  refine codeAny_call_function (fd := fnOf name qual params body scope dV kV doc pm an cdv ct) (body := body) hA.room (KX _ _ ho) rfl hco hgen rfl (codeRec_of KX hcd) ?_
  rw [hbind]
  refine wpAny_bind (newTup_ (P := IsT vs) X (fun n => ⟨n, rfl⟩) hz fun ta s₁ X₁ => wpAny_pure ?_)
  obtain ⟨B', hs, ⟨o, ho', k0, rfl⟩, _, X₁⟩ := X₁.freeze
  have hk₁ : ∀ y o, H.get? y = some o → s₁.heap.get? y = some o := fun y o e => X₁.keep y o (hs _ _ (a y o e))
  refine wpAny_newFunctionEnv hcell (hloc _) (fun h₀ hns₀ hsb₀ => ⟨(c.nolimit.keeps hk₁).fresh _ hsb₀, codeAny_func ?_⟩) hk
  exact h _ _ _ _ _ (hA.deeper _) rfl hs (hB.sub hs) ⟨k0, ho'⟩ (X₁.enter hns₀ fun b o e => hsb₀.extBut b o (Nat.ne_of_lt (Heap.lt_size e)) (Heap.get?_push_of_some _ e)) _
end
section
variable {w : World} {A : Around} {E : Value → Shared → Prop} {s : Shared} {R : Shared} {B : BM} {F : List (Addr × NM)} {μ μ' : Led} {Q : Value → Shared → Prop} {x dx d L : Addr} {rv : Value} {np nf : Int} {expr : Bool} {m : NM}
  {ns : List Nd} {keys : List Int} {N : Int → Int} {S : Int → List Int}

theorem add_kc {k : Int} {t : Tok} {preds : List Int} {vs : List Value} (hB : Base (KK w) B) (hA : Cx A 8) (hx : B x = some (instObj 137 dx)) (D : Nod B ns keys N S) (hz : keys.length + preds.length ≤ 90) (hout : ∀ k, k ∉ keys → N k = 0 ∧ S k = [])
    (hS : ∀ p, (S p).length + preds.length ≤ 900) (hv : All2 IntV preds vs)
    (X : St R B F ((dx, SD d .none np nf) :: (d, DI PG w d (kvOf ns)) :: (ndL ns ++ μ)) s)
    (K : ∀ (B' : BM) (ns' : List Nd) (s' : Shared), Sub B B' → Base (KK w) B' → Nod B' ns' (addK (addKey keys k) preds) (upd N k (N k + preds.length)) (addS S k preds) →
      (∀ q, q ∉ addK (addKey keys k) preds → upd N k (N k + preds.length) q = 0 ∧ addS S k preds q = []) →
      St R B' F ((dx, SD d .none np nf) :: (d, DI PG w d (kvOf ns')) :: (ndL ns' ++ μ)) s' → Q .none s') :
    codeAny (model PG w) A (.call (.ref 87) ⟨.ref x :: .int k t :: vs, []⟩) (fun r s' => match r with | .ok (.ret v) => Q v s' | .ok _ => False | .error e => E e s') s := by
  have hlen := hv.length
  refine code_fnVc (vs := vs) (front := [("self", .ref x), ("node", .int k t)]) (nr := "predecessors") hB hA X (by rfl) (by rfl) (by cases vs <;> rfl) (by (first | lia | omega)) (fun v => locs rfl) fun L A' B₁ ta s₁ hA' hF hs₁ hB₁ hta X₁ En => ?_
  have hx₁ := hs₁ _ _ hx
  have D₁ := D.sub hs₁
  walk_at "go"
  refine sget_ready hB₁ (by assumption) hx₁ (.head _) rfl (fun s2 X2 => ?_)
  walk_at "go"
  refine smeth (f := 80) hB₁ (by assumption) hx₁ (.head _) (by rfl) (by rfl) ?_
  walk_at "go"
  refine getinfo_c hB₁ (hA'.le (by decide)) hx₁ D₁ (by (first | lia | omega)) hout (by assumption) (fun B₂ ns₂ i n s3 hs₂ hB₂ D₂ hi hn e1 e2 e3 e4 X3 => ?_)
  have hx₂ := hs₂ _ _ hx₁
  walk_at "go"
  refine nget_np hB₂ (by assumption) (.tail _ (.tail _ (ndL_mem1 hn))) e4 (fun _ s4 X4 => ?_)
  walk_at "go"
  obtain ⟨tc, hta₂⟩ := id hta
  refine len_tup X4 (X4.keep _ _ (hs₂ _ _ hta₂)) (by (first | lia | omega)) (fun _ s5 X5 => ?_)
  walk_at "go"
  refine nset_np hB₂ (by assumption) e4 (.tail (.tail (ndL_np hn))) (fun s6 X6 => ?_)
  have D₃ := D₂.setNp hi hn (n.2.np + (vs.length : Int)) e1 e3
  have ekv : kvOf (ns₂.set i (n.1, { n.2 with np := n.2.np + (vs.length : Int) })) = kvOf ns₂ := kvOf_set hn rfl rfl
  rw [← ekv] at X6
  generalize ns₂.set i (n.1, { n.2 with np := n.2.np + (vs.length : Int) }) = ns₃ at D₃ X6
  rw [e2, hlen] at D₃
  have hout₁ : ∀ q, q ∉ addKey keys k → upd N k (N k + preds.length) q = 0 ∧ S q = [] := fun q hq => by
    rw [addKey_mem, not_or] at hq
    have := hout q hq.1
    unfold upd; rw [if_neg hq.2]; exact this
  clear X2 X3 X4 X5
  walk_at "go"
  refine it_tuple hA'.handled X6 (hs₂ _ _ hta₂) (fun I o s7 T X7 => ?_)
  refine for_x (fun j B' m' μ' => m' "self" = some (.ref x) ∧ m' "node" = some (.int k t) ∧ (∀ q, q ∉ addK (addKey keys k) (preds.take j) → upd N k (N k + preds.length) q = 0 ∧ addS S k (preds.take j) q = []) ∧ ∃ ns', Nod B' ns' (addK (addKey keys k) (preds.take j)) (upd N k (N k + preds.length)) (addS S k (preds.take j)) ∧
    (dx, SD d .none np nf) :: (d, DI PG w d (kvOf ns')) :: (ndL ns' ++ μ) = μ') T X7 ⟨by walk_at "lk", by walk_at "lk", hout₁, ns₃, D₃, rfl⟩ (fun v s' Q' E' hi hq => go_name hq) ?_ ?_
  · rintro j v B' m' μ' o' s' E' hj hv' hs' ⟨m1, m2, ho, ns', D', rfl⟩ Y Qn qn
    have hB' := hB₂.sub hs'
    have hx' := hs' _ _ hx₂
    obtain ⟨p, hp, tp, rfl⟩ := hv.getV hv'
    have hl1 := addK_len (addKey keys k) (preds.take j)
    have hl2 := addKey_len keys k
    have hl3 : (preds.take j).length ≤ preds.length := by rw [List.length_take]; (first | lia | omega)
    have hl4 := hS p
    have hl5 := addS_len k p (preds.take j) S
    have Y := Y.perm (μ' := (dx, SD d .none np nf) :: (d, DI PG w d (kvOf ns')) :: (ndL ns' ++ (I, ItP o') :: μ)) (by walk_at "pm")
    walk_at "go"
    refine smeth (f := 80) hB' (by assumption) hx' (.head _) (by rfl) (by rfl) ?_
    walk_at "go"
    refine getinfo_c hB' (hA'.le (by decide)) hx' D' (by (first | lia | omega)) ho (by assumption) (fun B₄ ns₄ i n s3 hs₄ hB₄ D₄ hi hn e1 e2 e3 e4 X3 => ?_)
    walk_at "go"
    refine nget_succ hB₄ (by assumption) (.tail _ (.tail _ (ndL_mem1 hn))) e4 (fun s4 X4 => ?_)
    refine meth_x (by assumption) (.inr (.tail _ (.tail _ (ndL_mem2 hn)))) PySem.F.slot_list_append rfl ?_
    walk_at "go"
    refine append_x (x := k) (by assumption) (.tail (.tail (ndL_succ hn))) ⟨t, rfl⟩ (by rw [e3]; (first | lia | omega)) (fun s5 X5 => ?_)
    have D₅ := D₄.setSucc hi hn (n.2.succ ++ [k]) e1 e2
    have ekv : kvOf (ns₄.set i (n.1, { n.2 with succ := n.2.succ ++ [k] })) = kvOf ns₄ := kvOf_set hn rfl rfl
    rw [← ekv] at X5
    generalize ns₄.set i (n.1, { n.2 with succ := n.2.succ ++ [k] }) = ns₅ at D₅ X5
    rw [e3] at D₅
    have ep : preds.take (j + 1) = preds.take j ++ [p] := by rw [List.take_add_one, hp]; rfl
    walk_at "go"
    refine qn _ _ ⟨B₄, _, _, hs₄, X5.perm (μ' := (I, ItP o') :: (dx, SD d .none np nf) :: (d, DI PG w d (kvOf ns₅)) :: (ndL ns₅ ++ μ)) (by walk_at "pm"), by walk_at "lk", by walk_at "lk", ?_, ns₅, ?_, rfl⟩
    · intro q hq
      rw [ep, addK_snoc, addKey_mem, not_or] at hq
      rw [ep, addS_snoc]
      have := ho q hq.1
      refine ⟨this.1, ?_⟩
      unfold upd; rw [if_neg hq.2]; exact this.2
    · rw [ep, addK_snoc, addS_snoc]; exact D₅
  · rintro B' m' μ' s' hs' ⟨m1, m2, ho, ns', D', rfl⟩ Y
    rw [hlen, List.take_length] at D' ho
    walk_at "go"
    exact K B' ns' _ ((hs₁.trans hs₂).trans hs') (hB₂.sub hs') D' ho Y.leave
theorem add_k {k : Int} {t : Tok} {preds : List Int} {vs : List Value} (hB : Base (KK w) B) (hA : Cx A 8) (hx : B x = some (instObj 137 dx)) (D : Nod B ns keys N S) (hz : keys.length + preds.length ≤ 90) (hout : ∀ k, k ∉ keys → N k = 0 ∧ S k = [])
    (hS : ∀ p, (S p).length + preds.length ≤ 900) (hv : All2 IntV preds vs)
    (X : St R B F ((dx, SD d .none np nf) :: (d, DI PG w d (kvOf ns)) :: (ndL ns ++ μ)) s)
    (K : ∀ (B' : BM) (ns' : List Nd) (s' : Shared), Sub B B' → Base (KK w) B' → Nod B' ns' (addK (addKey keys k) preds) (upd N k (N k + preds.length)) (addS S k preds) →
      (∀ q, q ∉ addK (addKey keys k) preds → upd N k (N k + preds.length) q = 0 ∧ addS S k preds q = []) →
      St R B' F ((dx, SD d .none np nf) :: (d, DI PG w d (kvOf ns')) :: (ndL ns' ++ μ)) s' → Q .none s') :
    wpAny (model PG w) A (call (.ref 87) (.ref x :: .int k t :: vs)) Q E s := wpAny_call (add_kc hB hA hx D hz hout hS hv X K)
end
end text_R4
section text_R5
set_option maxRecDepth 100000
set_option maxHeartbeats 4000000

noncomputable def outN (N : Int → Int) (ks : List Int) : Int → Int := ks.foldl (fun N k => upd N k (-1)) N
theorem outN_snoc (N : Int → Int) (ks : List Int) (k : Int) : outN N (ks ++ [k]) = upd (outN N ks) k (-1) := by unfold outN; rw [List.foldl_append]; rfl


noncomputable def npL (ns : List Nd) : Led := ns.map fun n => (n.1, NIo n.2)
theorem npL_mem {μ : Led} {ns : List Nd} {i : Nat} {n : Nd} (h : ns[i]? = some n) : (n.1, NIo n.2) ∈ npL ns ++ μ :=
  List.mem_append_left _ (List.mem_map_of_mem (f := fun n : Nd => (n.1, NIo n.2)) (List.mem_of_getElem? h))
theorem npL_np {μ : Led} {v : Int} : ∀ {ns : List Nd} {i : Nat} {n : Nd}, ns[i]? = some n → Set1 n.1 (NIo n.2) (NIo { n.2 with np := v }) (npL ns ++ μ) (npL (ns.set i (n.1, { n.2 with np := v })) ++ μ)
  | [], _, _, h => by simp at h
  | m :: ns, 0, n, h => by simp at h; subst h; exact .head
  | m :: ns, i + 1, n, h => by rw [List.set_cons_succ]; exact .tail (npL_np (by simpa using h))
theorem freezeAll {R : Shared} {F : List (Addr × NM)} {s : Shared} : ∀ (ns : List Nd) {B : BM} {μ : Led}, St R B F (ndL ns ++ μ) s → ∃ B', Sub B B' ∧ (∀ n ∈ ns, ∃ o, B' n.2.sl = some o ∧ XL IntV n.2.succ o) ∧ St R B' F (npL ns ++ μ) s
  | [], B, μ, X => ⟨B, Sub.refl _, fun n h => by simp at h, X⟩
  | n :: ns, B, μ, X => by
    have X : St R B F ((n.1, NIo n.2) :: (n.2.sl, XL IntV n.2.succ) :: (ndL ns ++ μ)) s := by rw [ndL_cons] at X; exact X
    obtain ⟨B1, hs1, ⟨o, ho, hx⟩, _, X⟩ := (X.perm (.swap _ _ _)).freeze
    obtain ⟨B2, hs2, hall, X⟩ := freezeAll ns (μ := (n.1, NIo n.2) :: μ) (X.perm List.perm_middle)
    refine ⟨B2, hs1.trans hs2, fun m hm => ?_, X.perm List.perm_middle.symm⟩
    rcases List.mem_cons.mp hm with rfl | hm
    · exact ⟨o, hs2 _ _ ho, hx⟩
    · exact hall m hm
structure NodF (w : World) (B : BM) (d : Addr) (ns : List Nd) (keys : List Int) (N : Int → Int) (S : Int → List Int) : Prop where
  nod : Nod B ns keys N S
  sl : ∀ n ∈ ns, ∃ o, B n.2.sl = some o ∧ XL IntV n.2.succ o
  di : ∃ o, B d = some o ∧ DI PG w d (kvOf ns) o
section
variable {w : World} {B B' : BM} {d : Addr} {ns : List Nd} {keys : List Int} {N : Int → Int} {S : Int → List Int} {k : Int} {i : Nat} {n : Nd}
theorem NodF.sub (h : NodF w B d ns keys N S) (hs : Sub B B') : NodF w B' d ns keys N S :=
  ⟨h.nod.sub hs, fun n hn => let ⟨o, ho, hx⟩ := h.sl n hn; ⟨o, hs _ _ ho, hx⟩, let ⟨o, ho, hx⟩ := h.di; ⟨o, hs _ _ ho, hx⟩⟩
theorem NodF.setNp (h : NodF w B d ns keys N S) (hi : keys[i]? = some k) (hn : ns[i]? = some n) (v : Int) (e2 : n.2.node = k) (e3 : n.2.succ = S k) : NodF w B d (ns.set i (n.1, { n.2 with np := v })) keys (upd N k v) S := by
  refine ⟨h.nod.setNp hi hn v e2 e3, fun m hm => ?_, ?_⟩
  · rcases List.mem_or_eq_of_mem_set hm with hm | rfl
    · exact h.sl m hm
    · exact h.sl n (List.mem_of_getElem? hn)
  · rw [kvOf_set (n' := (n.1, { n.2 with np := v })) hn rfl rfl]; exact h.di
end

section
variable {w : World} {A : Around} {E : Value → Shared → Prop} {s : Shared} {R : Shared} {B : BM} {F : List (Addr × NM)} {μ μ' : Led} {Q : Value → Shared → Prop} {x dx d L rl : Addr} {rv : Value} {np nf : Int} {expr : Bool} {m : NM}
  {ns : List Nd} {keys ready : List Int} {N : Int → Int} {S : Int → List Int}

theorem active_c (hB : Base (KK w) B) (hA : Cx A 4) (hx : B x = some (instObj 137 dx)) (hz : ready.length ≤ 900)
    (X : St R B F ((dx, SD d (.ref rl) np nf) :: (rl, XL IntV ready) :: μ) s)
    (K : ∀ (s' : Shared), St R B F ((dx, SD d (.ref rl) np nf) :: (rl, XL IntV ready) :: μ) s' → Q (.bool (decide (nf < np) || !ready.isEmpty)) s') :
    wpAny (model PG w) A (call (.ref 106) [.ref x]) Q E s := by
  refine call_fn (binds := [("self", .ref x)]) hB hA X (by rfl) (by rfl) (BindsTo.of_eq rfl) (locs rfl) fun L A' s₁ hA' hF X₁ En => ?_
  walk_at "go"
  refine sget_ready hB (by assumption) hx (.head _) rfl (fun s2 X2 => ?_)
  walk_at "go"
  refine sget_nf hB (by assumption) hx (.head _) (fun _ s3 X3 => ?_)
  walk_at "go"
  refine sget_np hB (by assumption) hx (.head _) (fun _ s4 X4 => ?_)
  walk_at "go"
  refine ite_both (fun hc => ?_) fun hc => ?_
  · rw [hc] at K ⊢
    exact K _ X4.leave
  · rw [Bool.not_eq_true] at hc
    rw [hc, Bool.false_or] at K
    walk_at "go"
    refine sget_ready hB (by assumption) hx (.head _) rfl (fun s5 X5 => ?_)
    walk_at "go"
    refine bool_x (rel := IntV) (by assumption) (.inr (.tail _ (.head _))) (by (first | lia | omega)) (fun s6 X6 => ?_)
    walk_at "go"
    exact K _ X6.leave

theorem ready_c (hB : Base (KK w) B) (hA : Cx A 4) (hx : B x = some (instObj 137 dx)) (D : NodF w B d ns keys N S) (hk : ∀ k ∈ ready, k ∈ keys) (hz : ready.length ≤ 900)
    (X : St R B F ((dx, SD d (.ref rl) np nf) :: (rl, XL IntV ready) :: (npL ns ++ μ)) s)
    (K : ∀ (B' : BM) (ns' : List Nd) (t : Addr) (vs : List Value) (s' : Shared), Sub B B' → Base (KK w) B' → NodF w B' d ns' keys (outN N ready) S → All2 IntV ready vs → TupB B' t vs →
      St R B' F ((dx, SD d (.ref rl) (np + ready.length) nf) :: (rl, XL IntV []) :: (npL ns' ++ μ)) s' → Q (.ref t) s') :
    wpAny (model PG w) A (call (.ref 99) [.ref x]) Q E s := by
  refine call_fn (binds := [("self", .ref x)]) hB hA X (by rfl) (by rfl) (BindsTo.of_eq rfl) (locs rfl) fun L A' s₁ hA' hF X₁ En => ?_
  walk_at "go"
  refine sget_ready hB (by assumption) hx (.head _) rfl (fun s2 X2 => ?_)
  walk_at "go"
  refine sget_ready hB (by assumption) hx (.head _) rfl (fun s3 X3 => ?_)
  walk_at "go"
  refine tuple_x (rel := IntV) (by assumption) (.inr (.tail _ (.head _))) (by (first | lia | omega)) (fun ta s4 X4 => ?_)
  obtain ⟨B₁, hs₁, ⟨_, hta, vs, hv, tn, rfl⟩, _, X4⟩ := X4.freeze
  have hB₁ := hB.sub hs₁
  have hx₁ := hs₁ _ _ hx
  have D₁ := D.sub hs₁
  have hlen := hv.length
  clear X2 X3
  walk_at "go"
  refine sget_n2i hB₁ (by assumption) hx₁ (.head _) (fun s2 X2 => ?_)
  walk_at "go"
  rename_i s5 X5
  refine it_tuple hA'.handled X5 hta (fun I o s7 T X7 => ?_)
  refine for_x (fun j B' m' μ' => m' "self" = some (.ref x) ∧ m' "n2i" = some (.ref d) ∧ m' "result" = some (.ref ta) ∧ B₁ = B' ∧ ∃ ns', NodF w B' d ns' keys (outN N (ready.take j)) S ∧
    (dx, SD d (.ref rl) np nf) :: (rl, XL IntV ready) :: (npL ns' ++ μ) = μ') T X7 ⟨by walk_at "lk", by walk_at "lk", by walk_at "lk", rfl, ns, D₁, rfl⟩ (fun v s' Q' E' hi hq => go_name hq) ?_ ?_
  · rintro j v B' m' μ' o' s' E' hj hv' hs' ⟨m1, m2, m3, rfl, ns', D', rfl⟩ Y Qn qn
    obtain ⟨p, hp, tp, rfl⟩ := hv.getV hv'
    have hpk := hk p (List.mem_of_getElem? hp)
    obtain ⟨i, n, h1, h2, h3, h4, h5, h6, h7⟩ := D'.nod.get hpk
    walk_at "go"
    refine ditem_x (prog := PG) (w := w) (by assumption) (.inl D'.di) h6 (fun s6 X6 => ?_)
    walk_at "go"
    dsimp only
    refine nset_np hB₁ (by assumption) h7 (.tail (.tail (.tail (npL_np h2)))) (fun s7 X7 => ?_)
    have D₂ := D'.setNp h1 h2 (-1) h3 h5
    generalize ns'.set i (n.1, { n.2 with np := -1 }) = ns₂ at D₂ X7
    walk_at "go"
    refine qn _ _ ⟨B₁, _, _, Sub.refl _, X7, by walk_at "lk", by walk_at "lk", by walk_at "lk", rfl, ns₂, ?_, rfl⟩
    rw [List.take_add_one, hp]
    show NodF w B₁ d ns₂ keys (outN N (ready.take j ++ [p])) S
    rw [outN_snoc]; exact D₂
  · rintro B' m' μ' s' hs' ⟨m1, m2, m3, rfl, ns', D', rfl⟩ Y
    rw [hlen, List.take_length] at D'
    walk_at "go"
    refine sget_ready hB₁ (by assumption) hx₁ (.head _) rfl (fun s6 X6 => ?_)
    refine meth_x (rel := IntV) (by assumption) (.inr (.tail _ (.head _))) PySem.F.slot_list_clear rfl ?_
    walk_at "go"
    refine clear_x (rel := IntV) (by assumption) (.tail .head) (by (first | lia | omega)) (fun s7 X7 => ?_)
    walk_at "go"
    refine sget_np hB₁ (by assumption) hx₁ (.head _) (fun _ s8 X8 => ?_)
    walk_at "go"
    refine len_tup X8 (X8.keep _ _ hta) (by (first | lia | omega)) (fun _ s9 X9 => ?_)
    walk_at "go"
    refine sset_np hB₁ (by assumption) hx₁ .head (fun s10 X10 => ?_)
    walk_at "go"
    rw [hlen] at X10
    exact K B₁ ns' ta vs _ hs₁ hB₁ D' hv ⟨tn, hta⟩ X10.leave
end
end text_R5
section text_R6
set_option maxRecDepth 100000
set_option maxHeartbeats 4000000

noncomputable def decr (p : (Int → Int) × List Int) (j : Int) : (Int → Int) × List Int := (upd p.1 j (p.1 j - 1), if p.1 j - 1 = 0 then p.2 ++ [j] else p.2)
noncomputable def doneStep (S : Int → List Int) (p : (Int → Int) × List Int) (k : Int) : (Int → Int) × List Int := (S k).foldl decr (upd p.1 k (-2), p.2)
noncomputable def doneAll (S : Int → List Int) (p : (Int → Int) × List Int) (ks : List Int) : (Int → Int) × List Int := ks.foldl (doneStep S) p
theorem doneAll_snoc (S : Int → List Int) (p : (Int → Int) × List Int) (ks : List Int) (k : Int) : doneAll S p (ks ++ [k]) = doneStep S (doneAll S p ks) k := by unfold doneAll; rw [List.foldl_append]; rfl
theorem decrs_len : ∀ (js : List Int) (p : (Int → Int) × List Int), (js.foldl decr p).2.length ≤ p.2.length + js.length := by
  intro js
  induction js with
  | nil => intro p; simp
  | cons j js ih =>
    intro p
    have h1 := ih (decr p j)
    have h2 : (decr p j).2.length ≤ p.2.length + 1 := by unfold decr; simp only []; split <;> simp
    simp only [List.foldl_cons, List.length_cons]; (first | lia | omega)
theorem doneAll_len {S : Int → List Int} {c : Nat} (hS : ∀ k, (S k).length ≤ c) : ∀ (ks : List Int) (p : (Int → Int) × List Int), (doneAll S p ks).2.length ≤ p.2.length + ks.length * c := by
  intro ks
  induction ks with
  | nil => intro p; simp [doneAll]
  | cons k ks ih =>
    intro p
    have h1 := ih (doneStep S p k)
    have h2 : (doneStep S p k).2.length ≤ p.2.length + c := Nat.le_trans (decrs_len _ _) (Nat.add_le_add_left (hS k) _)
    simp only [doneAll, List.foldl_cons, List.length_cons, Nat.add_mul, Nat.one_mul] at h1 ⊢; (first | lia | omega)

section
variable {w : World} {A : Around} {E : Value → Shared → Prop} {s : Shared} {R : Shared} {B : BM} {F : List (Addr × NM)} {μ μ' : Led} {Q : Value → Shared → Prop} {x dx d L rl : Addr} {rv : Value} {np nf : Int} {expr : Bool} {m : NM}
  {ns : List Nd} {keys ready : List Int} {N : Int → Int} {S : Int → List Int}

theorem done_cc {ks : List Int} {vs : List Value} (hB : Base (KK w) B) (hA : Cx A 4) (hx : B x = some (instObj 137 dx)) (D : NodF w B d ns keys N S) (hv : All2 IntV ks vs) (hks : ks.length ≤ 20)
    (hok : ∀ j k, ks[j]? = some k → k ∈ keys ∧ (doneAll S (N, ready) (ks.take j)).1 k = -1) (hS : ∀ k, (S k).length ≤ 20) (hz : ready.length ≤ 200) (hsucc : ∀ k ∈ ks, ∀ j ∈ S k, j ∈ keys)
    (X : St R B F ((dx, SD d (.ref rl) np nf) :: (rl, XL IntV ready) :: (npL ns ++ μ)) s)
    (K : ∀ (B' : BM) (ns' : List Nd) (s' : Shared), Sub B B' → Base (KK w) B' → NodF w B' d ns' keys (doneAll S (N, ready) ks).1 S →
      St R B' F ((dx, SD d (.ref rl) np (nf + ks.length)) :: (rl, XL IntV (doneAll S (N, ready) ks).2) :: (npL ns' ++ μ)) s' → Q .none s') :
    codeAny (model PG w) A (.call (.ref 120) ⟨.ref x :: vs, []⟩) (fun r s' => match r with | .ok (.ret v) => Q v s' | .ok _ => False | .error e => E e s') s := by
  have hlen := hv.length
  refine code_fnVc (vs := vs) (front := [("self", .ref x)]) (nr := "nodes") hB hA X (by rfl) (by rfl) (by cases vs <;> rfl) (by (first | lia | omega)) (fun v => locs rfl) fun L A' B₁ ta s₁ hA' hF hs₁ hB₁ hta X₁ En => ?_
  have hx₁ := hs₁ _ _ hx
  have D₁ := D.sub hs₁
  obtain ⟨tc, hta⟩ := hta
  walk_at "go"
  refine sget_ready hB₁ (by assumption) hx₁ (.head _) rfl (fun s2 X2 => ?_)
  walk_at "go"
  refine sget_n2i hB₁ (by assumption) hx₁ (.head _) (fun s3 X3 => ?_)
  walk_at "go"
  rename_i s4 X4
  refine it_tuple hA'.handled X4 hta (fun I o s7 T X7 => ?_)
  refine for_x (fun j B' m' μ' => m' "self" = some (.ref x) ∧ m' "n2i" = some (.ref d) ∧ B₁ = B' ∧ ∃ ns', NodF w B' d ns' keys (doneAll S (N, ready) (ks.take j)).1 S ∧
    (dx, SD d (.ref rl) np (nf + (j : Nat))) :: (rl, XL IntV (doneAll S (N, ready) (ks.take j)).2) :: (npL ns' ++ μ) = μ') T X7 ⟨by walk_at "lk", by walk_at "lk", rfl, ns, D₁, by rw [show nf + ((0 : Nat) : Int) = nf by simp]; rfl⟩ (fun v s' Q' E' hi hq => go_name hq) ?_ ?_
  · rintro j v B' m' μ' o' s' E' hj hv' hs' ⟨m1, m2, rfl, ns', D', rfl⟩ Y Qn qn
    obtain ⟨k, hk, tk, rfl⟩ := hv.getV hv'
    obtain ⟨hkk, hk1⟩ := hok j k hk
    obtain ⟨i, n, h1, h2, h3, h4, h5, h6, h7⟩ := D'.nod.get hkk
    have hl0 := doneAll_len hS (ks.take j) (N, ready)
    have hl1 : (ks.take j).length ≤ 20 := by rw [List.length_take]; (first | lia | omega)
    generalize hP : doneAll S (N, ready) (ks.take j) = P at D' Y h4 hk1 hl0
    walk_at "go"
    refine dget_m (prog := PG) (w := w) (by assumption) (.inl D'.di) ?_
    walk_at "go"
    refine dget_x (prog := PG) (w := w) (by assumption) (.inl D'.di) (fun s5 X5 => ?_)
    rw [h6, Option.getD_some]
    walk_at "go"
    refine nget_np hB₁ (by assumption) (.tail _ (.tail _ (.tail _ (npL_mem h2)))) h7 (fun _ s6 X6 => ?_)
    walk_at "go"
    refine ite_both (fun hc => by rw [h4, hk1] at hc; exact absurd hc (by decide)) fun _ => ?_
    walk_at "go"
    dsimp only
    refine nset_np hB₁ (by assumption) h7 (.tail (.tail (.tail (npL_np h2)))) (fun s7 X7 => ?_)
    have D₂ := D'.setNp h1 h2 (-2) h3 h5
    have h8 : (ns'.set i (n.1, { n.2 with np := -2 }))[i]? = some (n.1, { n.2 with np := -2 }) := List.getElem?_set_self (List.getElem?_eq_some_iff.mp h2).1
    obtain ⟨so, hso, svs, hsv, sc, rfl⟩ := D'.sl n (List.mem_of_getElem? h2)
    rw [h5] at hsv
    have hsl := hsv.length
    have hSk := hS k
    clear X5 X6
    walk_at "go"
    refine nget_succ (r := { n.2 with np := -2 }) hB₁ X7 (.tail _ (.tail _ (.tail _ (npL_mem h8)))) h7 (fun s8 X8 => ?_)
    generalize ns'.set i (n.1, { n.2 with np := -2 }) = ns₂ at D₂ X8
    refine it_list hA'.handled X8 hso (fun I2 o2 s9 T2 X9 => ?_)
    refine for_x (fun i B' m' μ' => m' "self" = some (.ref x) ∧ m' "n2i" = some (.ref d) ∧ B₁ = B' ∧ ∃ ns', NodF w B' d ns' keys (((S k).take i).foldl decr (upd P.1 k (-2), P.2)).1 S ∧
      (I, ItP o') :: (dx, SD d (.ref rl) np (nf + (j : Nat))) :: (rl, XL IntV (((S k).take i).foldl decr (upd P.1 k (-2), P.2)).2) :: (npL ns' ++ μ) = μ') T2 X9 ⟨by walk_at "lk", by walk_at "lk", rfl, ns₂, D₂, rfl⟩ (fun v s' Q' E' hi hq => go_name hq) ?_ ?_
    · rintro i2 v B' m2 μ' o3 s' E2 hi2 hv2 hs2 ⟨e1, e2, rfl, ns3, D3, rfl⟩ Y Qn qn
      obtain ⟨q, hq, tq, rfl⟩ := hsv.getV hv2
      obtain ⟨i3, n3, g1, g2, g3, g4, g5, g6, g7⟩ := D3.nod.get (hsucc k (List.mem_of_getElem? hk) q (List.mem_of_getElem? hq))
      have hl2 := decrs_len ((S k).take i2) (upd P.1 k (-2), P.2)
      have hl3 : ((S k).take i2).length ≤ 20 := by rw [List.length_take]; (first | lia | omega)
      have eP : ((S k).take (i2 + 1)).foldl decr (upd P.1 k (-2), P.2) = decr (((S k).take i2).foldl decr (upd P.1 k (-2), P.2)) q := by
        rw [List.take_add_one, hq, List.foldl_append]; rfl
      generalize ((S k).take i2).foldl decr (upd P.1 k (-2), P.2) = P3 at D3 Y g4 hl2 eP
      walk_at "go"
      refine ditem_x (prog := PG) (w := w) (by assumption) (.inl D3.di) g6 (fun s6 X6 => ?_)
      walk_at "go"
      refine nget_np hB₁ (by assumption) (.tail _ (.tail _ (.tail _ (.tail _ (npL_mem g2))))) g7 (fun _ s7 X7 => ?_)
      walk_at "go"
      refine nset_np hB₁ (by assumption) g7 (.tail (.tail (.tail (.tail (npL_np g2))))) (fun s8 X8 => ?_)
      have D4 := D3.setNp g1 g2 (n3.2.np - 1) g3 g5
      have g8 : (ns3.set i3 (n3.1, { n3.2 with np := n3.2.np - 1 }))[i3]? = some (n3.1, { n3.2 with np := n3.2.np - 1 }) := List.getElem?_set_self (List.getElem?_eq_some_iff.mp g2).1
      walk_at "go"
      refine nget_np (r := { n3.2 with np := n3.2.np - 1 }) hB₁ (by assumption) (.tail _ (.tail _ (.tail _ (.tail _ (npL_mem g8))))) g7 (fun _ s9 X9 => ?_)
      generalize ns3.set i3 (n3.1, { n3.2 with np := n3.2.np - 1 }) = ns4 at D4 X9
      rw [g4] at D4
      clear X6 X7 X8
      walk_at "go"
      refine ite_both (fun hc => ?_) fun hc => ?_
      · have hc : P3.1 q - 1 = 0 := by rw [← g4]; simpa using hc
        walk_at "go"
        refine sget_ready hB₁ (by assumption) hx₁ (.tail _ (.tail _ (.head _))) rfl (fun s10 X10 => ?_)
        refine meth_x (rel := IntV) (by assumption) (.inr (.tail _ (.tail _ (.tail _ (.head _))))) PySem.F.slot_list_append rfl ?_
        walk_at "go"
        refine append_x (rel := IntV) (x := q) (by assumption) (.tail (.tail (.tail .head))) ⟨tq, rfl⟩ (by simp only [] at hl2 hl0; (first | lia | omega)) (fun s11 X11 => ?_)
        walk_at "go"
        refine qn _ _ ⟨B₁, _, _, Sub.refl _, X11, by walk_at "lk", by walk_at "lk", rfl, ns4, ?_, ?_⟩
        · rw [eP]; exact D4
        · rw [eP]; unfold decr; rw [if_pos hc]
      · have hc : ¬ P3.1 q - 1 = 0 := by rw [← g4]; simpa using hc
        walk_at "go"
        refine qn _ _ ⟨B₁, _, _, Sub.refl _, by assumption, by walk_at "lk", by walk_at "lk", rfl, ns4, ?_, ?_⟩
        · rw [eP]; exact D4
        · rw [eP]; unfold decr; rw [if_neg hc]
    · rintro B' m2 μ' s' hs2 ⟨e1, e2, rfl, ns3, D3, rfl⟩ Y
      rw [hsl, List.take_length] at D3 Y
      walk_at "go"
      refine sget_nf hB₁ (by assumption) hx₁ (.tail _ (.head _)) (fun _ s10 X10 => ?_)
      walk_at "go"
      refine sset_nf hB₁ (by assumption) hx₁ (.tail .head) (fun s11 X11 => ?_)
      have eP : doneAll S (N, ready) (ks.take (j + 1)) = (S k).foldl decr (upd P.1 k (-2), P.2) := by
        rw [List.take_add_one, hk]
        show doneAll S (N, ready) (ks.take j ++ [k]) = _
        rw [doneAll_snoc, hP]; rfl
      walk_at "go"
      refine qn _ _ ⟨B₁, _, _, Sub.refl _, X11, by walk_at "lk", by walk_at "lk", rfl, ns3, ?_, ?_⟩
      · rw [eP]; exact D3
      · rw [eP, show nf + ((j + 1 : Nat) : Int) = nf + (j : Nat) + 1 by (first | lia | omega)]
  · rintro B' m' μ' s' hs' ⟨m1, m2, rfl, ns', D', rfl⟩ Y
    rw [hlen, List.take_length] at D' Y
    walk_at "go"
    exact K B₁ ns' _ hs₁ hB₁ D' Y.leave
theorem done_c {ks : List Int} {vs : List Value} (hB : Base (KK w) B) (hA : Cx A 4) (hx : B x = some (instObj 137 dx)) (D : NodF w B d ns keys N S) (hv : All2 IntV ks vs) (hks : ks.length ≤ 20)
    (hok : ∀ j k, ks[j]? = some k → k ∈ keys ∧ (doneAll S (N, ready) (ks.take j)).1 k = -1) (hS : ∀ k, (S k).length ≤ 20) (hz : ready.length ≤ 200) (hsucc : ∀ k ∈ ks, ∀ j ∈ S k, j ∈ keys)
    (X : St R B F ((dx, SD d (.ref rl) np nf) :: (rl, XL IntV ready) :: (npL ns ++ μ)) s)
    (K : ∀ (B' : BM) (ns' : List Nd) (s' : Shared), Sub B B' → Base (KK w) B' → NodF w B' d ns' keys (doneAll S (N, ready) ks).1 S →
      St R B' F ((dx, SD d (.ref rl) np (nf + ks.length)) :: (rl, XL IntV (doneAll S (N, ready) ks).2) :: (npL ns' ++ μ)) s' → Q .none s') :
    wpAny (model PG w) A (call (.ref 120) (.ref x :: vs)) Q E s := wpAny_call (done_cc hB hA hx D hv hks hok hS hz hsucc X K)
end
end text_R6
section text_R7
set_option maxRecDepth 100000
set_option maxHeartbeats 4000000
local macro_rules | `(tactic| walk_at "ex") => `(tactic| ((with_reducible show wpAny _ _ (exec (Stmt.For _ _ _ _ _) _) _ _ _); refine wpAny_For ?_))

theorem ExcF.drop1 {R : Shared} {B : BM} {F : List (Addr × NM)} {μ : Led} {p : Addr × (Obj → Prop)} {l : List Env} {e : Addr} {cls : Value} {s : Shared} (X : ExcF R B F (p :: μ) l e cls s) : ExcF R B F μ l e cls s :=
  let ⟨base, a0, ⟨kb, km, st⟩, h⟩ := X; ⟨base, a0, ⟨kb, fun q hq => km q (.tail _ hq), st.drop1⟩, h⟩
theorem FrF.pushF {A : Around} {l : List Env} {F : List (Addr × NM)} {env : Env} {L : Addr} {m : NM} (hF : A.frames = some (env :: l)) (h : FrF l F) (hk : env.scope.kind ≠ .module) (hf : env.frame = some L) : FrF (env :: l) ((L, m) :: F) := h.cons hk hf
section
variable {w : World} {A : Around} {E : Value → Shared → Prop} {s : Shared} {R : Shared} {B : BM} {F : List (Addr × NM)} {μ μ' : Led} {Q : Value → Shared → Prop} {x dx d L rl : Addr} {rv : Value} {np nf : Int} {expr : Bool} {m : NM}
  {ns : List Nd} {keys ready : List Int} {N : Int → Int} {S : Int → List Int}

theorem doneErr_c {k : Int} {tk : Tok} {l : List Env} (hB : Base (KK w) B) (hA : Cx A 4) (hfr : A.frames = some l) (hl : FrF l F) (hx : B x = some (instObj 137 dx)) (D : NodF w B d ns keys N S)
    (hk : k ∈ keys) (hk1 : N k ≠ -1) (hk2 : -2 ≤ N k) (hk3 : k.natAbs < 10 ^ 3)
    (X : St R B F ((dx, SD d (.ref rl) np nf) :: (rl, XL IntV ready) :: (npL ns ++ μ)) s)
    (K : ∀ (B' : BM) (e : Addr) (s' : Shared), Sub B B' → Base (KK w) B' →
      ExcF R B' F ((dx, SD d (.ref rl) np nf) :: (rl, XL IntV ready) :: (npL ns ++ μ)) l e (.type "ValueError") s' → E (.ref e) s') :
    wpAny (model PG w) A (call (.ref 120) [.ref x, .int k tk]) Q E s := by
  refine code_fnV (vs := [.int k tk]) (front := [("self", .ref x)]) (nr := "nodes") hB hA X (by rfl) (by rfl) (by rfl) (by simp) (fun v => locs rfl) fun L A' B₁ ta s₁ hA' hF hs₁ hB₁ hta X₁ => ?_
  have hx₁ := hs₁ _ _ hx
  have D₁ := D.sub hs₁
  obtain ⟨tc, hta⟩ := hta
  rw [hfr, Option.map_some] at hF
  walk_at "go"
  refine sget_ready hB₁ (by assumption) hx₁ (.head _) rfl (fun s2 X2 => ?_)
  walk_at "go"
  refine sget_n2i hB₁ (by assumption) hx₁ (.head _) (fun s3 X3 => ?_)
  walk_at "go"
  rename_i s4 X4
  refine it_tuple hA'.handled X4 hta (fun I o s7 T X7 => ?_)
  obtain ⟨i, n, h1, h2, h3, h4, h5, h6, h7⟩ := D₁.nod.get hk
  refine for_xE (fun j B' m' μ' => (j = 0 ∧ B₁ = B' ∧ (dx, SD d (.ref rl) np nf) :: (rl, XL IntV ready) :: (npL ns ++ μ) = μ' ∧ m' "self" = some (.ref x) ∧ m' "n2i" = some (.ref d))) T X7 ⟨rfl, rfl, rfl, by walk_at "lk", by walk_at "lk"⟩ (fun v s' Q' E' hi hq => go_name hq) ?_ ?_
  · rintro j v B' m' μ' o' s' hj hv' hs' ⟨rfl, rfl, rfl, m1, m2⟩ Y Qn qn
    have hv' : v = .int k tk := by simpa using hv'.symm
    subst hv'
    walk_at "go"
    refine dget_m (prog := PG) (w := w) (by assumption) (.inl D₁.di) ?_
    walk_at "go"
    refine dget_x (prog := PG) (w := w) (by assumption) (.inl D₁.di) (fun s5 X5 => ?_)
    rw [h6, Option.getD_some]
    walk_at "go"
    refine nget_np hB₁ (by assumption) (.tail _ (.tail _ (.tail _ (npL_mem h2)))) h7 (fun _ s6 X6 => ?_)
    walk_at "go"
    refine ite_both (fun _ => ?_) fun hc => by
      exfalso; apply hc; rw [h4]; simpa using hk1
    walk_at "go"
    refine ite_both (fun hc => ?_) fun hc => ?_
    · walk_at "go"
      refine raise_x hB₁ hA'.handled (FrF.pushF hF hl (by show ScopeKind.function ≠ ScopeKind.module; decide) rfl) (by assumption) (by rfl) (by rfl) (by boot_by_name) (by decide) ?_ ?_
      · intro Q' hQ'
        refine fstr3 (t := tk) (by assumption) (by decide) (by decide) hk3 (fun Q s X h => ?_) (fun x t s' X' => hQ' _ _ X')
        exact name_l (by rfl) X (by walk_at "lk") h
      · intro e s' X'
        unfold notedBy
        refine note0 hF rfl X' (fun s2 X2 => ?_)
        exact cameBack rfl X2 (fun s4 X4 => leaveH (Q := fun _ s => E (.ref e) s) rfl X4 (fun s3 X3 => K B₁ e s3 hs₁ hB₁ X3.drop1))
    · walk_at "go"
      refine ite_both (fun hc2 => ?_) fun hc2 => by
        exfalso; apply hc2; simp at hc; rw [h4] at hc ⊢
        have : N k = -2 := by (first | lia | omega)
        rw [this]; rfl
      walk_at "go"
      refine raise_x hB₁ hA'.handled (FrF.pushF hF hl (by show ScopeKind.function ≠ ScopeKind.module; decide) rfl) (by assumption) (by rfl) (by rfl) (by boot_by_name) (by decide) ?_ ?_
      · intro Q' hQ'
        refine fstr3 (t := tk) (by assumption) (by decide) (by decide) hk3 (fun Q s X h => ?_) (fun x t s' X' => hQ' _ _ X')
        exact name_l (by rfl) X (by walk_at "lk") h
      · intro e s' X'
        unfold notedBy
        refine note0 hF rfl X' (fun s2 X2 => ?_)
        exact cameBack rfl X2 (fun s4 X4 => leaveH (Q := fun _ s => E (.ref e) s) rfl X4 (fun s3 X3 => K B₁ e s3 hs₁ hB₁ X3.drop1))
  · rintro B' m' μ' s' hs' ⟨e0, _⟩ Y
    exact absurd e0 (by simp)
end
end text_R7
section text_R8
set_option maxRecDepth 100000
set_option maxHeartbeats 4000000

structure FrR where
  node : Int
  u : Addr
  I : Addr
  l : Addr
  i : Nat
noncomputable def itL (st : List FrR) : Led := st.map fun f => (f.I, LIt f.l f.i)
noncomputable def nodesR (st : List FrR) : List Int := (st.map FrR.node).reverse
noncomputable def usR (st : List FrR) : List Addr := (st.map FrR.u).reverse
theorem nodesR_cons (f : FrR) (st : List FrR) : nodesR (f :: st) = nodesR st ++ [f.node] := by unfold nodesR; simp
theorem usR_cons (f : FrR) (st : List FrR) : usR (f :: st) = usR st ++ [f.u] := by unfold usR; simp
noncomputable def remN (S : Int → List Int) (st : List FrR) : Nat := (st.map fun f => (S f.node).length - f.i).sum
theorem unseen_one : ∀ keys : List Int, unseen keys (fun _ => false) (fun _ => 1) = keys.length
  | [] => rfl
  | k :: keys => by have := unseen_one keys; simp only [unseen, List.map_cons, List.sum_cons, List.length_cons, Bool.false_eq_true, if_false] at this ⊢; (first | lia | omega)
structure DFS (B : BM) (S : Int → List Int) (keys : List Int) (r : Int → Nat) (st : List FrR) : Prop where
  it : ∀ f ∈ st, B f.u = some (mwObj f.I) ∧ f.node ∈ keys ∧ ∃ svs c, B f.l = some (listOf svs.toArray c) ∧ All2 IntV (S f.node) svs
  inc : st.Pairwise fun a b => r a.node < r b.node
theorem DFS.sub {B B' : BM} {S : Int → List Int} {keys : List Int} {r : Int → Nat} {st : List FrR} (h : DFS B S keys r st) (hs : Sub B B') : DFS B' S keys r st :=
  ⟨fun f hf => let ⟨a, b, svs, c, e, q⟩ := h.it f hf; ⟨hs _ _ a, b, svs, c, hs _ _ e, q⟩, h.inc⟩

section
variable {w : World} {A : Around} {E : Value → Shared → Prop} {s : Shared} {R : Shared} {B : BM} {F : List (Addr × NM)} {μ μ' : Led} {Q : Value → Shared → Prop} {x dx d L rl : Addr} {rv : Value} {np nf : Int} {expr : Bool} {m : NM}
  {ns : List Nd} {keys ready : List Int} {N : Int → Int} {S : Int → List Int}

theorem find_c {l : List Env} {r : Int → Nat} (hB : Base (KK w) B) (hA : Cx A 4) (hfr : A.frames = some l) (hl : FrF l F) (hx : B x = some (instObj 137 dx)) (D : NodF w B d ns keys N S) (hz : keys.length ≤ 100)
    (hr : ∀ k ∈ keys, ∀ j ∈ S k, j ∈ keys ∧ r j < r k) (X : St R B F ((dx, SD d rv np nf) :: (npL ns ++ μ)) s)
    (K : ∀ (B' : BM) (s' : Shared), Sub B B' → St R B' F ((dx, SD d rv np nf) :: (npL ns ++ μ)) s' → Q .none s') :
    wpAny (model PG w) A (call (.ref 127) [.ref x]) Q E s := by
  refine call_fn (binds := [("self", .ref x)]) hB hA X (by rfl) (by rfl) (BindsTo.of_eq rfl) (locs rfl) fun L A' s₁ hA' hF X₁ En => ?_
  rw [hfr, Option.map_some] at hF
  have hmem : ∀ (i : Nat) (n : Nd), ns[i]? = some n → (n.1, NIo n.2) ∈ (dx, SD d rv np nf) :: (npL ns ++ μ) := fun i n h => .tail _ (npL_mem h)
  walk_at "go"
  refine sget_n2i hB (by assumption) hx (.head _) (fun s2 X2 => ?_)
  generalize (dx, SD d rv np nf) :: (npL ns ++ μ) = μ₀ at X2 K hmem
  clear X X₁
  walk_at "go"
  refine newLst_ (P := XL IntV []) (by assumption) (fun c => ⟨[], .nil, c, rfl⟩) (by decide) (fun sk s3 X3 => ?_)
  walk_at "go"
  refine newLst_ (P := XL AddrV []) (by assumption) (fun c => ⟨[], .nil, c, rfl⟩) (by decide) (fun ik s4 X4 => ?_)
  walk_at "go"
  refine callWith_type0 (newSet_x (prog := PG) (w := w) (by assumption) (fun sa s5 X5 => ?_))
  walk_at "go"
  refine newDict_x (prog := PG) (w := w) hB (by assumption) (fun da s6 X6 => ?_)
  walk_at "go"
  obtain ⟨od, hod, hdi⟩ := id D.di
  have hnl := D.nod.len
  rename_i s7 X7
  have X7 := X7.perm (μ' := (sk, XL IntV (nodesR [])) :: (ik, XL AddrV (usR [])) :: (sa, SI PG w (fun _ => false) 0) :: (da, DI PG w da []) :: μ₀) (by show List.Perm ((sk, XL IntV []) :: (ik, XL AddrV []) :: _) _; walk_at "pm")
  refine it_keys hA'.handled X7 hod hdi (fun I o s8 T X8 => ?_)
  have hlen : (kvOf ns).length = keys.length := by unfold kvOf; rw [List.length_map, hnl]
  refine for_x (fun j B' m' μ' => m' "n2i" = some (.ref d) ∧ m' "stack" = some (.ref sk) ∧ m' "itstack" = some (.ref ik) ∧ m' "seen" = some (.ref sa) ∧ m' "node2stacki" = some (.ref da) ∧
    ∃ sn n, n + unseen keys sn (fun _ => 1) = keys.length ∧ (sk, XL IntV (nodesR [])) :: (ik, XL AddrV (usR [])) :: (sa, SI PG w sn n) :: (da, DI PG w da []) :: μ₀ = μ') T X8
    ⟨by walk_at "lk", by walk_at "lk", by walk_at "lk", by walk_at "lk", by walk_at "lk", fun _ => false, 0, by rw [unseen_one]; (first | lia | omega), rfl⟩ (fun v s' Q' E' hi hq => go_name hq) ?_ ?_
  · rintro j v B' m' μ' o' s' E' hj hv hs' ⟨m1, m2, m3, m4, m5, sn, n, hn, rfl⟩ Y Qn qn
    obtain ⟨k, kx, hk, hkv⟩ := hv
    obtain ⟨tk, rfl⟩ := isInt_v hkv
    have hkk : k ∈ keys := by
      have := List.mem_of_getElem? hk
      have := List.mem_map_of_mem (f := (·.1)) this
      rwa [D.nod.kv] at this
    have hn100 : n < 1000 := by (first | lia | omega)
    walk_at "go"
    refine sin_x (prog := PG) (w := w) (by assumption) (.tail _ (.tail _ (.tail _ (.head _)))) hn100 (fun s9 X9 => ?_)
    walk_at "go"
    refine ite_both (fun hc => ?_) fun hc => ?_
    · walk_at "go"
      exact qn _ _ ⟨B', _, _, Sub.refl _, X9, by walk_at "lk", by walk_at "lk", by walk_at "lk", by walk_at "lk", by walk_at "lk", sn, n, hn, rfl⟩
    · walk_at "go"
      refine While_ok (while_x (fun M s => ∃ B₂ m2 st sn n kvs q tq, Sub B' B₂ ∧ St R B₂ ((L, m2) :: F) (itL st ++ (sk, XL IntV (nodesR st)) :: (ik, XL AddrV (usR st)) :: (sa, SI PG w sn n) :: (da, DI PG w da kvs) :: (I, ItP o') :: μ₀) s ∧
        m2 "n2i" = some (.ref d) ∧ m2 "stack" = some (.ref sk) ∧ m2 "itstack" = some (.ref ik) ∧ m2 "seen" = some (.ref sa) ∧ m2 "node2stacki" = some (.ref da) ∧ m2 "node" = some (.int q tq) ∧
        q ∈ keys ∧ DFS B₂ S keys r st ∧ (∀ f ∈ st, r q < r f.node) ∧ kvs.map (·.1) = nodesR st ∧ st.length ≤ n ∧ n + unseen keys sn (fun _ => 1) = keys.length ∧ M = unseen keys sn (fun k => (S k).length + 1) + remN S st) ?_ _
        ⟨B', _, [], sn, n, [], k, tk, Sub.refl _, X9.perm (by walk_at "pm"), by walk_at "lk", by walk_at "lk", by walk_at "lk", by walk_at "lk", by walk_at "lk", by walk_at "lk", hkk, ⟨fun f h => by simp at h, .nil⟩, fun f h => by simp at h, rfl, Nat.zero_le _, hn, rfl⟩)
      rintro M s10 ⟨B₂, m2, st, sn, n, kvs, q, tq, hs₂, X10, g1, g2, g3, g4, g5, g6, hq, hD, hqr, hkvs, hst, hn, rfl⟩ Qw Qv Ew wn wc wb wr we
      have hB₂ := (hB.sub hs').sub hs₂
      have D₂ := (D.sub hs').sub hs₂
      have hn100 : n < 1000 := by (first | lia | omega)
      have hqn : q ∉ nodesR st := fun h => by
        unfold nodesR at h
        rw [List.mem_reverse, List.mem_map] at h
        obtain ⟨f, hf, e⟩ := h
        have := hqr f hf
        rw [e] at this; exact Nat.lt_irrefl _ this
      have hkq : valueAt kvs q = none := valueAt_none_of_not_mem (by rw [hkvs]; exact hqn)
      refine isTrue_plain ?_
      walk_at "go1"
      refine seq_x (fun s' => ∃ B₃ m3 st' sn' n' kvs', Sub B₂ B₃ ∧ St R B₃ ((L, m3) :: F) (itL st' ++ (sk, XL IntV (nodesR st')) :: (ik, XL AddrV (usR st')) :: (sa, SI PG w sn' n') :: (da, DI PG w da kvs') :: (I, ItP o') :: μ₀) s' ∧
        m3 "n2i" = some (.ref d) ∧ m3 "stack" = some (.ref sk) ∧ m3 "itstack" = some (.ref ik) ∧ m3 "seen" = some (.ref sa) ∧ m3 "node2stacki" = some (.ref da) ∧
        DFS B₃ S keys r st' ∧ kvs'.map (·.1) = nodesR st' ∧ st'.length ≤ n' ∧ n' + unseen keys sn' (fun _ => 1) = keys.length ∧ unseen keys sn' (fun k => (S k).length + 1) + remN S st' ≤ unseen keys sn (fun k => (S k).length + 1) + remN S st) ?_ ?_
      · intro Qm qf
        walk_at "go"
        refine sin_x (prog := PG) (w := w) (by assumption) (by walk_at "mem") hn100 (fun s11 X11 => ?_)
        walk_at "go"
        refine ite_both (fun hc => ?_) fun hc => ?_
        · walk_at "go"
          refine din_x (prog := PG) (w := w) (by assumption) (.inr (by walk_at "mem")) (fun s12 X12 => ?_)
          rw [hkq]
          walk_at "go"
          dsimp only [Option.isSome_none]
          walk_at "go"
          exact qf _ ⟨B₂, _, st, sn, n, kvs, Sub.refl _, X12, by walk_at "lk", by walk_at "lk", by walk_at "lk", by walk_at "lk", by walk_at "lk", hD, hkvs, hst, hn, Nat.le_refl _⟩
        · have hc : sn q = false := by simpa using hc
          walk_at "go"
          refine sadd_m (prog := PG) (w := w) (by assumption) (by walk_at "mem") hn100 ?_
          walk_at "go"
          refine sadd_x (prog := PG) (w := w) (n' := n + 1) (by assumption) (by walk_at "set") (by rw [hc]; rfl) hn100 (fun s12 X12 => ?_)
          walk_at "go"
          refine meth_x (rel := AddrV) (by assumption) (.inr (by walk_at "mem")) PySem.F.slot_list_append rfl ?_
          obtain ⟨i, nn, h1, h2, h3, h4, h5, h6, h7⟩ := D₂.nod.get hq
          obtain ⟨so, hso, svs, hsv, sc, rfl⟩ := D₂.sl nn (List.mem_of_getElem? h2)
          rw [h5] at hsv
          have hm0 := hmem i nn h2
          have hln : (nodesR st).length = st.length := by unfold nodesR; simp
          have hlu : (usR st).length = st.length := by unfold usR; simp
          walk_at "go"
          refine ditem_x (prog := PG) (w := w) (by assumption) (.inl D₂.di) h6 (fun s13 X13 => ?_)
          walk_at "go"
          refine nget_succ hB₂ (by assumption) (by walk_at "mem") h7 (fun s14 X14 => ?_)
          walk_at "go"
          refine iter_x (by assumption) hso (fun Iq s15 X15 => ?_)
          walk_at "go"
          refine next_attr (by assumption) (.head _) (fun B₃ u s16 hs₃ hu X16 => ?_)
          have hB₃ := hB₂.sub hs₃
          walk_at "go"
          refine append_x (rel := AddrV) (x := u) (by assumption) (by walk_at "set") rfl (by (first | lia | omega)) (fun s17 X17 => ?_)
          walk_at "go"
          refine len_x (rel := IntV) (by assumption) (.inr (by walk_at "mem")) (by (first | lia | omega)) (fun t0 s18 X18 => ?_)
          walk_at "go"
          refine dset_x (prog := PG) (w := w) (by assumption) (by walk_at "set") (by rw [← List.length_map (f := (·.1)), hkvs]; (first | lia | omega)) (fun s19 X19 => ?_)
          walk_at "go"
          refine meth_x (rel := IntV) (by assumption) (.inr (by walk_at "mem")) PySem.F.slot_list_append rfl ?_
          walk_at "go"
          refine append_x (rel := IntV) (x := q) (by assumption) (by walk_at "set") ⟨tq, rfl⟩ (by (first | lia | omega)) (fun s20 X20 => ?_)
          walk_at "go"
          have hu1 := unseen_add (f := fun _ => 1) hc D.nod.nd hq
          have hu2 := unseen_add (f := fun k => (S k).length + 1) hc D.nod.nd hq
          refine qf _ ⟨B₃, _, ⟨q, u, Iq, nn.2.sl, 0⟩ :: st, (fun k' => sn k' || decide (k' = q)), n + 1, stored kvs q (.int (nodesR st).length t0), hs₃, ?_, by walk_at "lk", by walk_at "lk", by walk_at "lk", by walk_at "lk", by walk_at "lk", ⟨fun f hf => ?_, ?_⟩, ?_, ?_, ?_, ?_⟩
          · rw [nodesR_cons, usR_cons]; exact X20
          · rcases List.mem_cons.mp hf with rfl | hf
            · exact ⟨hu, hq, svs, sc, hs₃ _ _ hso, hsv⟩
            · exact (hD.sub hs₃).it f hf
          · exact .cons hqr hD.inc
          · rw [stored_absent hkq, List.map_append, hkvs, nodesR_cons]; rfl
          · simp; (first | lia | omega)
          · (first | lia | omega)
          · simp only [remN, List.map_cons, List.sum_cons] at hu2 ⊢; (first | lia | omega)
      · rintro s11 ⟨B₃, m3, st', sn', n', kvs', hs₃, X11, g1, g2, g3, g4, g5, hD', hkvs', hst', hn', hM⟩
        have hB₃ := hB₂.sub hs₃
        refine execs_one (While_ok (while_x (fun c s => ∃ B₄ m4 st4 kvs4, Sub B₃ B₄ ∧ St R B₄ ((L, m4) :: F) (itL st4 ++ (sk, XL IntV (nodesR st4)) :: (ik, XL AddrV (usR st4)) :: (sa, SI PG w sn' n') :: (da, DI PG w da kvs4) :: (I, ItP o') :: μ₀) s ∧
          m4 "n2i" = some (.ref d) ∧ m4 "stack" = some (.ref sk) ∧ m4 "itstack" = some (.ref ik) ∧ m4 "seen" = some (.ref sa) ∧ m4 "node2stacki" = some (.ref da) ∧
          DFS B₄ S keys r st4 ∧ kvs4.map (·.1) = nodesR st4 ∧ st4.length ≤ n' ∧ remN S st4 ≤ remN S st' ∧ c = st4.length) ?_ _
          ⟨B₃, m3, st', kvs', Sub.refl _, X11, g1, g2, g3, g4, g5, hD', hkvs', hst', Nat.le_refl _, rfl⟩))
        rintro c s12 ⟨B₄, m4, st4, kvs4, hs₄, X12, e1, e2, e3, e4, e5, hD4, hk4, hst4, hM4, rfl⟩ Qy Qz Ey vn vc vb vr ve
        have hB₄ := hB₃.sub hs₄
        have hln : (nodesR st4).length = st4.length := by unfold nodesR; simp
        walk_at "go"
        refine truthy_x (rel := IntV) X12 (.inr (by walk_at "mem")) (by (first | lia | omega)) (fun s13 X13 => ?_)
        cases st4 with
        | nil =>
          refine ite_both (fun hc => absurd hc (by decide)) fun _ => ?_
          have hk5 : kvs4 = [] := List.map_eq_nil_iff.mp hk4
          subst hk5
          walk_at "go"
          refine ve _ _ (wb _ ?_)
          exact qn _ _ ⟨B₄, _, _, (hs₂.trans hs₃).trans hs₄, X13.perm (μ' := (I, ItP o') :: (sk, XL IntV (nodesR [])) :: (ik, XL AddrV (usR [])) :: (sa, SI PG w sn' n') :: (da, DI PG w da []) :: μ₀) (by show List.Perm _ ((sk, XL IntV (nodesR [])) :: _); walk_at "pm"), by walk_at "lk", by walk_at "lk", by walk_at "lk", by walk_at "lk", by walk_at "lk", sn', n', hn', rfl⟩
        | cons f st5 =>
          refine ite_both (fun _ => ?_) fun hc => by exfalso; apply hc; rw [nodesR_cons]; simp
          obtain ⟨hu, hfk, svs, sc, hsl, hsv⟩ := hD4.it f (.head _)
          have hsvl := hsv.length
          rw [nodesR_cons, usR_cons] at X13
          have X13 : St R B₄ ((L, m4) :: F) ((f.I, LIt f.l f.i) :: (itL st5 ++ (sk, XL IntV (nodesR st5 ++ [f.node])) :: (ik, XL AddrV (usR st5 ++ [f.u])) :: (sa, SI PG w sn' n') :: (da, DI PG w da kvs4) :: (I, ItP o') :: μ₀)) s13 := X13
          have hlu : (usR st5).length = st5.length := by unfold usR; simp
          simp only [List.length_cons] at hst4
          refine execs_one (wpAny_Try_except ?_)
          walk_at "ex"
          walk_at "ex"
          refine Call_ ?_
          walk_at "go"
          refine u_neg (by assumption) (fun _ s14 X14 => ?_)
          walk_at "go"
          refine get_last (rel := AddrV) X14 (.inr (by walk_at "mem")) (by (first | lia | omega)) (fun v hv => ?_)
          obtain rfl := hv
          refine mw_cw0 X14 hu ?_
          cases hi : svs[f.i]? with
          | some v =>
            obtain ⟨j, hj, tj, rfl⟩ := hsv.getV hi
            refine mw_item X14 hu .head hsl hi (fun s15 X15 => ?_)
            have hjm := hr f.node hfk j (List.mem_of_getElem? hj)
            have hji := (List.getElem?_eq_some_iff.mp hj).1
            walk_at "go"
            have hinc := List.pairwise_cons.mp hD4.inc
            refine vb _ (wn (unseen keys sn' (fun k => (S k).length + 1) + remN S ({ f with i := f.i + 1 } :: st5)) _ ?_ ⟨B₄, put m4 "node" (.int j tj), { f with i := f.i + 1 } :: st5, sn', n', kvs4, j, tj, (hs₂.trans hs₃).trans hs₄, ?_, by walk_at "lk", by walk_at "lk", by walk_at "lk", by walk_at "lk", by walk_at "lk", by walk_at "lk", hjm.1, ⟨fun g hg => ?_, ?_⟩, fun g hg => ?_, ?_, ?_, hn', rfl⟩)
            · simp only [remN, List.map_cons, List.sum_cons] at hM4 hM ⊢; (first | lia | omega)
            · rw [nodesR_cons, usR_cons]; assumption
            · rcases List.mem_cons.mp hg with rfl | hg
              · exact ⟨hu, hfk, svs, sc, hsl, hsv⟩
              · exact hD4.it g (.tail _ hg)
            · exact .cons hinc.1 hinc.2
            · rcases List.mem_cons.mp hg with rfl | hg
              · exact hjm.2
              · exact Nat.lt_trans hjm.2 (hinc.1 g hg)
            · rw [hk4, nodesR_cons, nodesR_cons]
            · simp only [List.length_cons]; exact hst4
          | none =>
            refine mw_end hA'.handled (FrF.pushF hF hl (by show ScopeKind.function ≠ ScopeKind.module; decide) rfl) X14 hu hsl hi (fun e s15 X15 => ?_)
            have hfn : f.node ∉ nodesR st5 := fun h => by
              unfold nodesR at h
              rw [List.mem_reverse, List.mem_map] at h
              obtain ⟨g, hg, e⟩ := h
              have := (List.pairwise_cons.mp hD4.inc).1 g hg
              rw [e] at this; exact Nat.lt_irrefl _ this
            have hkv : (valueAt kvs4 f.node).isSome = true := by
              cases hc : valueAt kvs4 f.node with
              | some _ => rfl
              | none =>
                exfalso
                have h1 : f.node ∈ kvs4.map (·.1) := by rw [hk4, nodesR_cons]; simp
                obtain ⟨p, hp, e⟩ := List.mem_map.mp h1
                unfold valueAt at hc
                rw [Option.map_eq_none_iff, List.find?_eq_none] at hc
                exact hc p hp (by simpa using e)
            have hkz : kvs4.length ≤ 1000 := by rw [← List.length_map (f := (·.1)), hk4, nodesR_cons]; unfold nodesR; simp; (first | lia | omega)
            refine note0 hF rfl X15 (fun s16 X16 => flightH X16 (fun s17 X17 => ?_))
            refine handle_x (X := "StopIteration") (T := "StopIteration") (x := "StopIteration") hB₄ X17 (by rfl) (by rfl) (by boot_by_name) (by decide) Nx.stop_exc Nx.stop_nt Nx.stop_self (fun s18 X18 => ?_)
            refine execs_x fun qN hN => wpAny_Delete (wpAny_deleteEach_cons (wpAny_delete_Subscript ?_))
            walk_at "go"
            refine meth_x (rel := IntV) (by assumption) (.inr (by walk_at "mem")) PySem.F.slot_list_pop PySem.F.type_list_pop ?_
            walk_at "go"
            refine pop_x (rel := IntV) (x := f.node) (by assumption) (by walk_at "set") (by simp) (by simp; unfold nodesR; simp; (first | lia | omega)) (fun v s19 hv X19 => ?_)
            obtain ⟨t5, rfl⟩ := hv
            refine ddel_x (prog := PG) (w := w) (by assumption) (by walk_at "set") hkv hkz (fun s20 X20 => ?_)
            refine wpAny_deleteEach_nil ?_
            walk_at "go"
            refine meth_x (rel := AddrV) (by assumption) (.inr (by walk_at "mem")) PySem.F.slot_list_pop PySem.F.type_list_pop ?_
            walk_at "go"
            refine pop_x (rel := AddrV) (x := f.u) (by assumption) (by walk_at "set") (by simp) (by simp; (first | lia | omega)) (fun v s21 hv X21 => ?_)
            walk_at "go"
            rw [List.dropLast_concat, List.dropLast_concat] at X21
            refine vn st5.length _ (by simp) ⟨B₄, m4, st5, _, hs₄, X21, e1, e2, e3, e4, e5, ⟨fun g hg => hD4.it g (.tail _ hg), (List.pairwise_cons.mp hD4.inc).2⟩, ?_, by (first | lia | omega), ?_, rfl⟩
            · have e6 : (without kvs4 f.node).map (·.1) = (kvs4.map (·.1)).filter fun k => decide (k ≠ f.node) := by
                unfold without; rw [List.filter_map]; rfl
              rw [e6, hk4, nodesR_cons, List.filter_append, List.filter_eq_self.mpr (fun k hk => by simp; intro e; exact hfn (e ▸ hk))]
              simp
            · simp only [remN, List.map_cons, List.sum_cons] at hM4 ⊢; (first | lia | omega)
  · rintro B' m' μ' s' hs' ⟨m1, m2, m3, m4, m5, sn, n, hn, rfl⟩ Y
    walk_at "go"
    exact K B' _ hs' ((Y.leave.drop1.drop1.drop1.drop1))
end
end text_R8
section text_R9
set_option maxRecDepth 100000
set_option maxHeartbeats 4000000

noncomputable def readyOf (keys : List Int) (N : Int → Int) : List Int := keys.filter fun k => N k == 0

section
variable {w : World} {A : Around} {E : Value → Shared → Prop} {s : Shared} {R : Shared} {B : BM} {F : List (Addr × NM)} {μ μ' : Led} {Q : Value → Shared → Prop} {x dx d L rl : Addr} {rv : Value} {np nf : Int} {expr : Bool} {m : NM}
  {ns : List Nd} {keys ready : List Int} {N : Int → Int} {S : Int → List Int}

theorem prepare_c {l : List Env} {r : Int → Nat} (hB : Base (KK w) B) (hA : Cx A 8) (hfr : A.frames = some l) (hl : FrF l F) (hx : B x = some (instObj 137 dx)) (D : Nod B ns keys N S) (hz : keys.length ≤ 100)
    (hr : ∀ k ∈ keys, ∀ j ∈ S k, j ∈ keys ∧ r j < r k) (X : St R B F ((dx, SD d .none np nf) :: (d, DI PG w d (kvOf ns)) :: (ndL ns ++ μ)) s)
    (K : ∀ (B' : BM) (rl : Addr) (s' : Shared), Sub B B' → Base (KK w) B' → NodF w B' d ns keys N S → St R B' F ((dx, SD d (.ref rl) np nf) :: (rl, XL IntV (readyOf keys N)) :: (npL ns ++ μ)) s' → Q .none s') :
    wpAny (model PG w) A (call (.ref 92) [.ref x]) Q E s := by
  obtain ⟨B₁, hs₁, hsl, X⟩ := freezeAll ns (X.perm (μ' := ndL ns ++ (dx, SD d .none np nf) :: (d, DI PG w d (kvOf ns)) :: μ) (by walk_at "pm"))
  obtain ⟨B₂, hs₂, ⟨od, hod, hdi⟩, _, X⟩ := (X.perm (μ' := (d, DI PG w d (kvOf ns)) :: (dx, SD d .none np nf) :: (npL ns ++ μ)) (by walk_at "pm")).freeze
  have hB₂ := (hB.sub hs₁).sub hs₂
  have hx₂ := hs₂ _ _ (hs₁ _ _ hx)
  have D₂ : NodF w B₂ d ns keys N S := ⟨(D.sub hs₁).sub hs₂, fun n hn => let ⟨o, ho, h⟩ := hsl n hn; ⟨o, hs₂ _ _ ho, h⟩, od, hod, hdi⟩
  have hnl := D.len
  refine call_fn (binds := [("self", .ref x)]) hB₂ hA X (by rfl) (by rfl) (BindsTo.of_eq rfl) (locs rfl) fun L A' s₁ hA' hF X₁ En => ?_
  rw [hfr, Option.map_some] at hF
  walk_at "go"
  refine sget_ready hB₂ (by assumption) hx₂ (.head _) rfl (fun s2 X2 => ?_)
  walk_at "go"
  refine comp_p (by assumption) IntV (fun j => readyOf (keys.take j) N) (by rfl) rfl (by decide) ?_
  walk_at "go"
  refine sget_n2i hB₂ (by assumption) hx₂ (.head _) (fun s3 X3 => ?_)
  refine dvalues_m (prog := PG) (w := w) (by assumption) (.inl ⟨od, hod, hdi⟩) ?_
  walk_at "go"
  refine dvalues_x (prog := PG) (w := w) (by assumption) hod hdi (fun r2 s4 X4 => ?_)
  refine it_values hA'.handled X4 hod hdi (fun I o s5 T X5 => ?_)
  have hlen : (kvOf ns).length = keys.length := by unfold kvOf; rw [List.length_map, hnl]
  refine ⟨I, _, _, o, _, B₂, _, rfl, T, X5, fun i hi => Nat.le_trans (List.length_filter_le _ _) (by simp; (first | lia | omega)), rfl, ?_, ?_⟩
  · rintro C D' i v m' o' s' E' hi ⟨k0, hk0⟩ Y Qy Qm qy qm
    have hi2 : i < keys.length := by (first | lia | omega)
    obtain ⟨n, h1, h2, h3, h4, h5⟩ := D₂.nod.at_ (List.getElem?_eq_getElem hi2)
    rw [hk0] at h5
    have hv : v = .ref n.1 := by injection h5 with h5; injection h5
    subst hv
    have h7 := D₂.nod.dn n (List.mem_of_getElem? h1)
    have hm0 : (n.1, NIo n.2) ∈ npL ns ++ μ := npL_mem h1
    have et : keys.take (i + 1) = keys.take i ++ [keys[i]] := by rw [List.take_add_one, List.getElem?_eq_getElem hi2]; rfl
    walk_at "go"
    refine nget_np hB₂ (by assumption) (by walk_at "mem") h7 (fun _ s6 X6 => ?_)
    walk_at "go"
    refine ite_both (fun hc => ?_) fun hc => ?_
    · walk_at "go"
      refine nget_node hB₂ (by assumption) (by walk_at "mem") h7 (fun _ s7 X7 => ?_)
      refine qy _ _ ⟨_, keys[i], X7, ⟨_, by rw [h2]⟩, ?_⟩
      unfold readyOf
      rw [et, List.filter_append, List.filter_cons, if_pos (by rw [← h3]; exact hc)]; rfl
    · refine qm _ ⟨_, by assumption, ?_⟩
      unfold readyOf
      rw [et, List.filter_append, List.filter_cons, if_neg (by rw [← h3]; exact hc)]; simp
  · intro D' s' Y
    rw [hlen, List.take_length] at Y
    walk_at "go"
    refine sset_ready hB₂ (by assumption) hx₂ (.tail .head) (fun s6 X6 => ?_)
    walk_at "go"
    refine smeth (f := 127) hB₂ (by assumption) hx₂ (.tail _ (.head _)) (by rfl) (by rfl) ?_
    walk_at "go"
    refine find_c (r := r) hB₂ (hA'.le (by decide)) hF (FrF.pushF hF hl (by show ScopeKind.function ≠ ScopeKind.module; decide) rfl) hx₂ D₂ hz hr (X6.perm (μ' := (dx, SD d (.ref D') np nf) :: (npL ns ++ (D', XL IntV (readyOf keys N)) :: μ)) (by walk_at "pm")) (fun B₃ s7 hs₃ X7 => ?_)
    have hB₃ := hB₂.sub hs₃
    walk_at "go"
    refine wpAny_pure (a := false) ?_
    refine ite_both (fun hc => absurd hc (by decide)) fun _ => ?_
    walk_at "go"
    exact K B₃ D' _ ((hs₁.trans hs₂).trans hs₃) hB₃ (D₂.sub hs₃) ((by assumption : St R B₃ _ _ _).leave.perm (by walk_at "pm"))
end
end text_R9
section text_R10
set_option maxRecDepth 100000
set_option maxHeartbeats 4000000

section
variable {w : World} {A : Around} {E : Value → Shared → Prop} {s : Shared} {R : Shared} {B : BM} {F : List (Addr × NM)} {μ μ' : Led} {Q : Value → Shared → Prop} {L a : Addr} {m : NM} {t : Tok}

theorem nlargest_c {xs : List Int} {b : Int} {o : Obj} (hB : Base (KK w) B) (hA : Cx A 6) (ha : B a = some o) (ho : XL IntV xs o) (hb : maxI xs = some b) (hz : xs.length ≤ 100) (X : St R B F μ s)
    (K : ∀ (D : Addr) (s' : Shared), St R B F ((D, XL IntV [b]) :: μ) s' → Q (.ref D) s') :
    wpAny (model PG w) A (call (.ref 189) [.int 1 t, .ref a]) Q E s := by
  refine call_fnC (binds := [("n", .int 1 t), ("iterable", .ref a), ("key", .none)]) hB hA X (by rfl) (by rfl) (BindsTo.of_defaults (T := 184) rfl (hB.inH X _ _ (by rfl)) rfl rfl rfl) (by rfl) (by decide) fun L A' s₁ hA' hF X₁ En => ?_
  have X₁ : St R B ((L, put (put (fun _ => none) "n" (.int 1 t)) "iterable" (.ref a)) :: F) ((L + 1, IsC (some .none)) :: μ) s₁ := X₁
  obtain ⟨vs, hv, c, rfl⟩ := id ho
  have hvl := hv.length
  walk_at "go"
  rw [if_pos (by decide)]
  walk_at "go"
  refine iter_g (it_list (A := A'.in1) hA'.handled (by assumption) ha (fun I oi s3 TT X3 => ?_))
  walk_at "go"
  refine callWith_type0 (object_x (by assumption) (fun sn s5 X5 => ?_))
  walk_at "go"
  rename_i s6 X6
  refine max_gen (d := [.ref sn]) X6 (max_argsDK _ _ _) ⟨some .none, some (.ref sn), by rfl, rfl, rfl⟩ ?_
  have X6' := X6.perm (μ' := (I, ItP oi) :: (sn, fun o => o = { cls := .type "object", data := .plain }) :: (L + 1, IsC (some .none)) :: μ) (by walk_at "pm")
  have TT2 := TT.keep X3 X6'
  refine TT2.self ⟨I, _, _, oi, _, B, _, xs, rfl, TT2, X6', hvl, fun i v hiv => hv.getV hiv, fun h => by simp at h, fun v s7 X7 hm => ?_⟩
  rw [hb] at hm
  obtain ⟨tv, rfl⟩ := hm
  walk_at "go"
  refine wpAny_is_other rfl (by intro h; cases h) ?_
  walk_at "go"
  refine newLst_ (P := XL IntV [b]) (by assumption) (fun c => ⟨_, .cons ⟨tv, rfl⟩ .nil, c, rfl⟩) (by simp) (fun D s8 X8 => ?_)
  walk_at "go"
  exact K D _ (X8.leave.drop (.cons_cons _ (.cons _ (.cons _ (List.Sublist.refl _)))))
end
end text_R10
section text_R11
set_option maxRecDepth 100000
set_option maxHeartbeats 4000000

structure RefSt where
  P : (Int → Int) × List Int
  nf : Int
  ref : List Int
noncomputable def refStep (S : Int → List Int) (st : RefSt) (k : Int) : RefSt := if st.P.1 k = -1 then ⟨doneStep S st.P k, st.nf + 1, st.ref⟩ else ⟨st.P, st.nf, st.ref ++ [k]⟩
noncomputable def refAll (S : Int → List Int) (st : RefSt) (ks : List Int) : RefSt := ks.foldl (refStep S) st
theorem refAll_snoc (S : Int → List Int) (st : RefSt) (ks : List Int) (k : Int) : refAll S st (ks ++ [k]) = refStep S (refAll S st ks) k := by unfold refAll; rw [List.foldl_append]; rfl
theorem refStep_len {S : Int → List Int} {c : Nat} (hS : ∀ k, (S k).length ≤ c) (st : RefSt) (k : Int) : (refStep S st k).P.2.length ≤ st.P.2.length + c ∧ (refStep S st k).ref.length ≤ st.ref.length + 1 := by
  unfold refStep; split
  · exact ⟨Nat.le_trans (decrs_len _ _) (Nat.add_le_add_left (hS k) _), Nat.le_succ _⟩
  · simp
theorem refAll_len {S : Int → List Int} {c : Nat} (hS : ∀ k, (S k).length ≤ c) : ∀ (ks : List Int) (st : RefSt), (refAll S st ks).P.2.length ≤ st.P.2.length + ks.length * c ∧ (refAll S st ks).ref.length ≤ st.ref.length + ks.length := by
  intro ks
  induction ks with
  | nil => intro st; simp [refAll]
  | cons k ks ih =>
    intro st
    have h1 := ih (refStep S st k)
    have h2 := refStep_len hS st k
    simp only [refAll, List.foldl_cons, List.length_cons, Nat.add_mul, Nat.one_mul] at h1 ⊢; (first | lia | omega)
noncomputable def rangeI (a : Int) (n : Nat) : List Int := (List.range n).map fun (i : Nat) => a + (i : Int)
theorem rangeI_succ (a : Int) (n : Nat) : rangeI a (n + 1) = rangeI a n ++ [a + (n : Int)] := by unfold rangeI; rw [List.range_succ]; simp

section
variable {w : World} {A : Around} {E : Value → Shared → Prop} {s : Shared} {R : Shared} {B : BM} {F : List (Addr × NM)} {μ μ' : Led} {Q : Value → Shared → Prop} {x dx d L rl rr : Addr} {rv : Value} {np nf : Int} {expr : Bool} {m : NM}
  {ns : List Nd} {keys ready : List Int} {N : Int → Int} {S : Int → List Int}

theorem refused_c {a b : Int} {n : Nat} {l : List Env} (hB : Base (KK w) B) (hA : Cx A 8) (hfr : A.frames = some l) (hl : FrF l F) (hx : B x = some (instObj 137 dx)) (D : NodF w B d ns keys N S)
    (hb : b = a + n) (ha : 0 ≤ a) (ha2 : a < 100) (hn : n ≤ 20) (hkeys : ∀ i, i < n → a + (i : Nat) ∈ keys) (hsucc : ∀ k ∈ keys, ∀ j ∈ S k, j ∈ keys) (hS : ∀ k, (S k).length ≤ 7) (hz : ready.length ≤ 20)
    (hok : ∀ i, i < n → -2 ≤ (refAll S ⟨(N, ready), nf, []⟩ (rangeI a i)).P.1 (a + (i : Nat)))
    (X : St R B F ((dx, SD d (.ref rl) np nf) :: (rl, XL IntV ready) :: (npL ns ++ (rr, RngP a b) :: μ)) s)
    (K : ∀ (B' : BM) (ns' : List Nd) (D : Addr) (s' : Shared), Sub B B' → Base (KK w) B' → NodF w B' d ns' keys (refAll S ⟨(N, ready), nf, []⟩ (rangeI a n)).P.1 S →
      St R B' F ((D, XL IntV (refAll S ⟨(N, ready), nf, []⟩ (rangeI a n)).ref) :: (dx, SD d (.ref rl) np (refAll S ⟨(N, ready), nf, []⟩ (rangeI a n)).nf) :: (rl, XL IntV (refAll S ⟨(N, ready), nf, []⟩ (rangeI a n)).P.2) :: (npL ns' ++ (rr, RngP a b) :: μ)) s' → Q (.ref D) s') :
    wpAny (model PG w) A (call (.ref 272) [.ref x, .ref rr]) Q E s := by
  refine call_fn (binds := [("sorter", .ref x), ("nodes", .ref rr)]) hB hA X (by rfl) (by rfl) (BindsTo.of_eq rfl) (locs rfl) fun L A' s₁ hA' hF X₁ En => ?_
  rw [hfr, Option.map_some] at hF
  walk_at "go"
  refine newLst_ (P := XL IntV []) (by assumption) (fun c => ⟨[], .nil, c, rfl⟩) (by decide) (fun rf s2 X2 => ?_)
  walk_at "go"
  rename_i s3 X3
  refine it_range (k := n) hA'.handled X3 (by walk_at "mem") hb (by (first | lia | omega)) (by (first | lia | omega)) (by (first | lia | omega)) (fun I o s4 T X4 => ?_)
  refine for_x (fun j B' m' μ' => m' "sorter" = some (.ref x) ∧ m' "refused" = some (.ref rf) ∧ ∃ ns', NodF w B' d ns' keys (refAll S ⟨(N, ready), nf, []⟩ (rangeI a j)).P.1 S ∧
    (rf, XL IntV (refAll S ⟨(N, ready), nf, []⟩ (rangeI a j)).ref) :: (dx, SD d (.ref rl) np (refAll S ⟨(N, ready), nf, []⟩ (rangeI a j)).nf) :: (rl, XL IntV (refAll S ⟨(N, ready), nf, []⟩ (rangeI a j)).P.2) :: (npL ns' ++ (rr, RngP a b) :: μ) = μ') T X4
    ⟨by walk_at "lk", by walk_at "lk", ns, D, rfl⟩ (fun v s' Q' E' hi hq => go_name hq) ?_ ?_
  · rintro j v B' m' μ' o' s' E' hj ⟨tv, rfl⟩ hs' ⟨m1, m2, ns', D', rfl⟩ Y Qn qn
    have hB' := hB.sub hs'
    have hx' := hs' _ _ hx
    have hlen := refAll_len hS (rangeI a j) ⟨(N, ready), nf, []⟩
    have hrl : (rangeI a j).length = j := by unfold rangeI; simp
    have hkj := hkeys j hj
    have hokj := hok j hj
    have ers : refAll S ⟨(N, ready), nf, []⟩ (rangeI a (j + 1)) = refStep S (refAll S ⟨(N, ready), nf, []⟩ (rangeI a j)) (a + (j : Int)) := by rw [rangeI_succ, refAll_snoc]
    rw [hrl] at hlen
    simp only [List.length_nil] at hlen
    generalize refAll S ⟨(N, ready), nf, []⟩ (rangeI a j) = st at D' Y hokj ers hlen
    walk_at "go"
    refine wpAny_Try_except ?_
    walk_at "go"
    refine smeth (f := 120) hB' (by assumption) hx' (by walk_at "mem") (by rfl) (by rfl) ?_
    walk_at "go"
    rename_i s5 X5
    by_cases hc : st.P.1 (a + (j : Int)) = -1
    · have e2 : refStep S st (a + (j : Int)) = ⟨doneStep S st.P (a + (j : Int)), st.nf + 1, st.ref⟩ := by unfold refStep; rw [if_pos hc]
      refine done_c (ks := [a + (j : Int)]) (ready := st.P.2) (N := st.P.1) hB' (hA'.le (by decide)) hx' D' (.cons ⟨tv, rfl⟩ .nil) (by simp) (fun i k hik => ?_) (fun k => Nat.le_trans (hS k) (by decide)) (by (first | lia | omega)) (fun k hk q hq => ?_)
        (X5.perm (μ' := (dx, SD d (.ref rl) np st.nf) :: (rl, XL IntV st.P.2) :: (npL ns' ++ (I, ItP o') :: (rf, XL IntV st.ref) :: (rr, RngP a b) :: μ)) (by walk_at "pm")) (fun B₂ ns₂ s6 hs₂ hB₂ D₂ X6 => ?_)
      · match i, hik with
        | 0, hik => simp at hik; subst hik; exact ⟨hkj, hc⟩
        | i + 1, hik => simp at hik
      · simp at hk; subst hk; exact hsucc _ hkj q hq
      · walk_at "go"
        have e3 : doneAll S (st.P.1, st.P.2) [a + (j : Int)] = doneStep S st.P (a + (j : Int)) := rfl
        rw [e3] at D₂ X6
        refine qn _ _ ⟨B₂, _, _, hs₂, X6.perm (μ' := (I, ItP o') :: (rf, XL IntV st.ref) :: (dx, SD d (.ref rl) np (st.nf + 1)) :: (rl, XL IntV (doneStep S st.P (a + (j : Int))).2) :: (npL ns₂ ++ (rr, RngP a b) :: μ)) (by walk_at "pm"), by walk_at "lk", by walk_at "lk", ns₂, ?_, ?_⟩
        · rw [ers, e2]; exact D₂
        · rw [ers, e2]
    · have e2 : refStep S st (a + (j : Int)) = ⟨st.P, st.nf, st.ref ++ [a + (j : Int)]⟩ := by unfold refStep; rw [if_neg hc]
      refine doneErr_c (ready := st.P.2) (N := st.P.1) hB' (hA'.le (by decide)) hF (FrF.pushF hF hl (by show ScopeKind.function ≠ ScopeKind.module; decide) rfl) hx' D' hkj hc hokj (by (first | lia | omega))
        (X5.perm (μ' := (dx, SD d (.ref rl) np st.nf) :: (rl, XL IntV st.P.2) :: (npL ns' ++ (I, ItP o') :: (rf, XL IntV st.ref) :: (rr, RngP a b) :: μ)) (by walk_at "pm")) (fun B₂ e s6 hs₂ hB₂ X6 => ?_)
      refine noteF hF rfl X6 (fun s7 X7 => flightH X7 (fun s8 X8 => ?_))
      refine handle_x (X := "ValueError") (T := "ValueError") (x := "ValueError") hB₂ X8 (by rfl) (by rfl) (by boot_by_name) (by decide) Nx.val_exc Nx.val_nt Nx.val_self (fun s9 X9 => ?_)
      walk_at "go"
      refine meth_x (rel := IntV) (by assumption) (.inr (by walk_at "mem")) PySem.F.slot_list_append rfl ?_
      walk_at "go"
      refine append_x (rel := IntV) (x := a + (j : Int)) (by assumption) (by walk_at "set") ⟨tv, rfl⟩ (by (first | lia | omega)) (fun s10 X10 => ?_)
      walk_at "go"
      refine qn _ _ ⟨B₂, _, _, hs₂, X10.perm (μ' := (I, ItP o') :: (rf, XL IntV (st.ref ++ [a + (j : Int)])) :: (dx, SD d (.ref rl) np st.nf) :: (rl, XL IntV st.P.2) :: (npL ns' ++ (rr, RngP a b) :: μ)) (by walk_at "pm"), by walk_at "lk", by walk_at "lk", ns', ?_, ?_⟩
      · rw [ers, e2]; exact D'.sub hs₂
      · rw [ers, e2]
  · rintro B' m' μ' s' hs' ⟨m1, m2, ns', D', rfl⟩ Y
    walk_at "go"
    exact K B' ns' rf _ hs' (hB.sub hs') D' Y.leave
end
end text_R11
section text_P2
set_option maxRecDepth 100000

noncomputable def gI (g : List (List Int)) (p : Int) : List Int := g.getD p.toNat []
noncomputable def wOf (hours : List (Option Int)) (q : Int) : Option Int := if 0 ≤ q then hours.getD q.toNat none else none
noncomputable def tI (ts : List Int) (q : Int) : Int := ts.getD q.toNat 0
structure Game (g : List (List Int)) (ts : List Int) : Prop where
  gl : g.length = 7
  gr : ∀ p, 0 ≤ p → p < 7 → ∀ q ∈ gI g p, 0 ≤ q ∧ q < 7
  gs : ∀ p, 0 ≤ p → p < 7 → (gI g p).Pairwise (· < ·)
  tl : ts.length = 7
  tr : ∀ p, 0 ≤ p → p < 7 → 1 ≤ tI ts p ∧ tI ts p ≤ 3
structure SOk (g : List (List Int)) (keys : List Int) (S : Int → List Int) : Prop where
  km : ∀ k, k ∈ keys ↔ 0 ≤ k ∧ k < 14
  s0 : ∀ k, ¬ (7 ≤ k ∧ k < 14) → S k = []
  s2 : ∀ q, 0 ≤ q → q < 7 → S (7 + q) = (rangeI 0 7).filter fun p => decide (q ∈ gI g p)

structure RS where
  heap : List PI
  log : List PI
  hours : List (Option Int)
  N : Int → Int
  np : Int
  nf : Int
structure WS where
  hours : List (Option Int)
  P : (Int → Int) × List Int
  nf : Int
noncomputable def wonStep (g : List (List Int)) (ts : List Int) (S : Int → List Int) (hour p : Int) (st : WS) (q : Nat) : WS :=
  if (gI g q).any (· == p) && (wOf st.hours q).isNone then ⟨st.hours.set q (some (hour + tI ts q)), doneAll S st.P [7 + (q : Int)], st.nf + 1⟩ else st
noncomputable def wonAll (g : List (List Int)) (ts : List Int) (S : Int → List Int) (hour p : Int) (st : WS) (k : Nat) : WS := (List.range k).foldl (wonStep g ts S hour p) st
noncomputable def lastOf (g : List (List Int)) (hours : List (Option Int)) (q : Int) : Option Int := maxI ((gI g q).map fun r => (wOf hours r).getD 0)
noncomputable def pushStep (g : List (List Int)) (ts : List Int) (hours : List (Option Int)) (h : List PI) (q : Int) : List PI := pushK h ((lastOf g hours q).getD 0 + tI ts q, q)
noncomputable def topOf (st : RS) : PI := st.heap.getD 0 (0, 0)
noncomputable def wonOf (g : List (List Int)) (ts : List Int) (S : Int → List Int) (st : RS) (k : Nat) : WS := wonAll g ts S (topOf st).1 (topOf st).2 ⟨st.hours, (st.N, []), st.nf⟩ k
noncomputable def runStep (g : List (List Int)) (ts : List Int) (S : Int → List Int) (st : RS) : RS :=
  ⟨(wonOf g ts S st 7).P.2.foldl (pushStep g ts (wonOf g ts S st 7).hours) (popK st.heap), st.log ++ [topOf st], (wonOf g ts S st 7).hours, outN (wonOf g ts S st 7).P.1 (wonOf g ts S st 7).P.2, st.np + (wonOf g ts S st 7).P.2.length, (wonOf g ts S st 7).nf⟩
theorem wonAll_succ (g : List (List Int)) (ts : List Int) (S : Int → List Int) (hour p : Int) (st : WS) (k : Nat) : wonAll g ts S hour p st (k + 1) = wonStep g ts S hour p (wonAll g ts S hour p st k) k := by
  unfold wonAll; rw [List.range_succ, List.foldl_append]; rfl

noncomputable def cn (g : List (List Int)) (W : Int → Option Int) (p : Int) : Nat := ((gI g p).filter fun r => (W r).isNone).length
noncomputable def lhOf (g : List (List Int)) (ts : List Int) (W : Int → Option Int) (p : Int) : Int := if gI g p = [] then 0 else (maxI ((gI g p).map fun r => (W r).getD 0)).getD 0 + tI ts p
structure RInv (g : List (List Int)) (ts : List Int) (st : RS) : Prop where
  hl : st.hours.length = 7
  n1 : ∀ q, 0 ≤ q → q < 7 → st.N (7 + q) = if (wOf st.hours q).isNone then -1 else -2
  n2 : ∀ p, 0 ≤ p → p < 7 → st.N p = if cn g (wOf st.hours) p = 0 then -1 else (cn g (wOf st.hours) p : Int)
  ent : ∀ x ∈ st.log ++ st.heap, 0 ≤ x.2 ∧ x.2 < 7 ∧ cn g (wOf st.hours) x.2 = 0 ∧ x.1 = lhOf g ts (wOf st.hours) x.2
  all : ∀ p, 0 ≤ p → p < 7 → cn g (wOf st.hours) p = 0 → p ∈ (st.log ++ st.heap).map (·.2)
  nd : ((st.log ++ st.heap).map (·.2)).Nodup
  wn : ∀ q, 0 ≤ q → q < 7 → wOf st.hours q = none → ∀ x ∈ st.log, x.2 ∉ gI g q
  ws : ∀ q, 0 ≤ q → q < 7 → ∀ h, wOf st.hours q = some h → ∃ x ∈ st.log, x.2 ∈ gI g q ∧ h = x.1 + tI ts q ∧ ∀ y ∈ st.log, y.2 ∈ gI g q → x.1 ≤ y.1
  srt : st.log.Pairwise fun x y => ltP x y = true
  lh : ∀ x ∈ st.log, ∀ y ∈ st.heap, ltP x y = true
  hp : IsHeap st.heap
  np : st.np = 7 + ((st.log ++ st.heap).length : Int)
  nf : st.nf = (((rangeI 0 7).filter fun q => (wOf st.hours q).isSome).length : Int)

/-- what the walk of a turn asks -/
structure StepOk (g : List (List Int)) (ts : List Int) (S : Int → List Int) (st : RS) : Prop where
  top : st.heap[0]? = some (topOf st)
  len : st.heap.length ≤ 7 ∧ st.log.length < 7
  hrs : ∀ j, j ≤ 7 → (wonOf g ts S st j).hours.length = 7 ∧ (wonOf g ts S st j).P.2.length ≤ 7
  won : ∀ j : Nat, j < 7 → (gI g j).any (· == (topOf st).2) = true → wOf (wonOf g ts S st j).hours j = none → (wonOf g ts S st j).P.1 (7 + (j : Int)) = -1
  rdy : ∀ q ∈ (wonOf g ts S st 7).P.2, 0 ≤ q ∧ q < 7 ∧ gI g q ≠ [] ∧ ∀ r ∈ gI g q, 0 ≤ r ∧ r < 7 ∧ (wOf (wonOf g ts S st 7).hours r).isSome = true
  hpl : ∀ k, (((wonOf g ts S st 7).P.2.take k).foldl (pushStep g ts (wonOf g ts S st 7).hours) (popK st.heap)).length ≤ 20

theorem nodup_lt7 : ∀ (n : Nat) (l : List Int), l.Nodup → (∀ x ∈ l, 0 ≤ x ∧ x < (n : Int)) → l.length ≤ n
  | 0, l, nd, h => by
    cases l with
    | nil => simp
    | cons a l => have := h a (.head _); (first | lia | omega)
  | n + 1, l, nd, h => by
    have h1 := nodup_lt7 n (l.filter fun x => decide (x ≠ (n : Int))) (nd.filter _) (fun x hx => by
      rw [List.mem_filter] at hx
      have := h x hx.1
      have h2 : x ≠ (n : Int) := by simpa using hx.2
      (first | lia | omega))
    by_cases hm : (n : Int) ∈ l
    · have h2 : l.length ≤ (l.filter fun x => decide (x ≠ (n : Int))).length + 1 := by
        have := List.length_eq_countP_add_countP (fun x => decide (x ≠ (n : Int))) (l := l)
        rw [List.countP_eq_length_filter, List.countP_eq_length_filter] at this
        have h3 : (l.filter fun x => !decide (x ≠ (n : Int))).length ≤ 1 := by
          have e : (l.filter fun x => !decide (x ≠ (n : Int))) = l.filter (· == (n : Int)) := List.filter_congr fun x _ => Bool.eq_iff_iff.mpr (by simp)
          rw [e, ← List.countP_eq_length_filter]
          exact List.nodup_iff_count.mp nd _
        have e2 : (fun a => decide ¬(decide (a ≠ (n : Int)) = true)) = fun x => !decide (x ≠ (n : Int)) := by funext a; simp
        rw [e2] at this
        (first | lia | omega)
      (first | lia | omega)
    · have e : l.filter (fun x => decide (x ≠ (n : Int))) = l := List.filter_eq_self.mpr fun x hx => by
        have : x ≠ (n : Int) := fun e => hm (e ▸ hx)
        simpa using this
      rw [e] at h1; (first | lia | omega)

theorem decr_all : ∀ (js : List Int) (N : Int → Int) (rd : List Int), js.Nodup → js.foldl decr (N, rd) = (fun x => if x ∈ js then N x - 1 else N x, rd ++ js.filter fun j => decide (N j - 1 = 0))
  | [], N, rd, _ => by simp
  | j :: js, N, rd, nd => by
    simp only [List.nodup_cons] at nd
    have ih := decr_all js (decr (N, rd) j).1 (decr (N, rd) j).2 nd.2
    rw [List.foldl_cons, show decr (N, rd) j = ((decr (N, rd) j).1, (decr (N, rd) j).2) from rfl, ih]
    refine Prod.ext ?_ ?_
    · funext x
      show (if x ∈ js then upd N j (N j - 1) x - 1 else upd N j (N j - 1) x) = if x ∈ j :: js then N x - 1 else N x
      unfold upd
      by_cases e : x = j
      · subst e
        rw [if_neg nd.1, if_pos rfl, if_pos (.head _)]
      · rw [if_neg e]
        by_cases e2 : x ∈ js
        · rw [if_pos e2, if_pos (.tail _ e2)]
        · rw [if_neg e2, if_neg (by simp [e, e2])]
    · show (if N j - 1 = 0 then rd ++ [j] else rd) ++ js.filter (fun x => decide (upd N j (N j - 1) x - 1 = 0)) = rd ++ (j :: js).filter fun x => decide (N x - 1 = 0)
      have e : js.filter (fun x => decide (upd N j (N j - 1) x - 1 = 0)) = js.filter fun x => decide (N x - 1 = 0) := List.filter_congr fun x hx => by
        have : x ≠ j := fun e => nd.1 (e ▸ hx)
        unfold upd; rw [if_neg this]
      rw [e, List.filter_cons]
      by_cases h : N j - 1 = 0
      · rw [if_pos h, if_pos (by simpa using h)]; simp
      · rw [if_neg h, if_neg (by simpa using h)]

theorem rangeI_mem {n : Nat} {x : Int} : x ∈ rangeI 0 n ↔ 0 ≤ x ∧ x < n := by
  unfold rangeI
  rw [List.mem_map]
  constructor
  · rintro ⟨i, hi, rfl⟩; rw [List.mem_range] at hi; (first | lia | omega)
  · rintro ⟨h1, h2⟩; exact ⟨x.toNat, by rw [List.mem_range]; (first | lia | omega), by (first | lia | omega)⟩
theorem rangeI_sorted (a : Int) (n : Nat) : (rangeI a n).Pairwise (· < ·) := by
  unfold rangeI
  rw [List.pairwise_map]
  exact List.pairwise_lt_range.imp fun h => by (first | lia | omega)
theorem nodup_of_lt {l : List Int} (h : l.Pairwise (· < ·)) : l.Nodup := h.imp fun h e => by (first | lia | omega)
theorem wOf_set {hours : List (Option Int)} {j : Nat} {v : Option Int} (hj : j < hours.length) : wOf (hours.set j v) = upd (wOf hours) j v := by
  funext q
  show (if 0 ≤ q then (hours.set j v).getD q.toNat none else none) = if q = (j : Int) then v else if 0 ≤ q then hours.getD q.toNat none else none
  by_cases h0 : 0 ≤ q
  · rw [if_pos h0, if_pos h0, List.getD_eq_getElem?_getD]
    by_cases e : q = (j : Int)
    · subst e
      rw [if_pos rfl, Int.toNat_natCast, List.getElem?_set_self hj]; rfl
    · rw [if_neg e, List.getElem?_set_ne (by (first | lia | omega)), ← List.getD_eq_getElem?_getD]
  · rw [if_neg h0, if_neg (by (first | lia | omega)), if_neg h0]
theorem cn_upd {g : List (List Int)} {W : Int → Option Int} {p j v : Int} (nd : (gI g p).Nodup) (hj : W j = none) : cn g (upd W j (some v)) p + (if j ∈ gI g p then 1 else 0) = cn g W p := by
  unfold cn
  generalize gI g p = l at nd
  induction l with
  | nil => simp
  | cons a l ih =>
    simp only [List.nodup_cons] at nd
    have ih := ih nd.2
    rw [List.filter_cons, List.filter_cons]
    by_cases e : a = j
    · subst e
      have h1 : (upd W a (some v) a).isNone = false := by unfold upd; rw [if_pos rfl]; rfl
      rw [if_neg nd.1] at ih
      rw [h1, hj, if_pos (show a ∈ a :: l from List.mem_cons_self)]
      simp only [Bool.false_eq_true, if_false, Option.isNone_none, if_true, List.length_cons]
      (first | lia | omega)
    · have h1 : upd W j (some v) a = W a := by unfold upd; rw [if_neg e]
      rw [h1]
      have h2 : (j ∈ a :: l) ↔ j ∈ l := by simp [Ne.symm e]
      simp only [h2]
      by_cases h3 : (W a).isNone = true
      · rw [if_pos h3, if_pos h3, List.length_cons, List.length_cons]; (first | lia | omega)
      · rw [if_neg h3, if_neg h3]; exact ih
theorem cn_zero {g : List (List Int)} {W : Int → Option Int} {p : Int} : cn g W p = 0 ↔ ∀ r ∈ gI g p, (W r).isSome = true := by
  unfold cn
  rw [List.length_eq_zero_iff, List.filter_eq_nil_iff]
  refine forall_congr' fun r => forall_congr' fun _ => ?_
  cases W r <;> simp
end text_P2
section text_P3
set_option maxRecDepth 100000

theorem outN_eq : ∀ (ks : List Int) (N : Int → Int) (x : Int), outN N ks x = if x ∈ ks then -1 else N x
  | [], N, x => by simp [outN]
  | k :: ks, N, x => by
    show outN (upd N k (-1)) ks x = _
    rw [outN_eq ks]
    by_cases h : x ∈ ks
    · rw [if_pos h, if_pos (List.mem_cons_of_mem _ h)]
    · rw [if_neg h]
      unfold upd
      by_cases e : x = k
      · rw [if_pos e, if_pos (by rw [e]; exact List.mem_cons_self)]
      · rw [if_neg e, if_neg (by simp [e, h])]
theorem some_upd {W : Int → Option Int} {j v : Int} (hj : W j = none) : ∀ {l : List Int}, l.Nodup → j ∈ l → (l.filter fun q => (upd W j (some v) q).isSome).length = (l.filter fun q => (W q).isSome).length + 1
  | [], _, h => by simp at h
  | a :: l, nd, h => by
    simp only [List.nodup_cons] at nd
    rw [List.filter_cons, List.filter_cons]
    by_cases e : a = j
    · subst e
      have h1 : upd W a (some v) a = some v := by unfold upd; rw [if_pos rfl]
      have h2 : l.filter (fun q => (upd W a (some v) q).isSome) = l.filter fun q => (W q).isSome := List.filter_congr fun q hq => by
        have : q ≠ a := fun e => nd.1 (e ▸ hq)
        unfold upd; rw [if_neg this]
      rw [h1, hj, h2]; simp
    · have h1 : upd W j (some v) a = W a := by unfold upd; rw [if_neg e]
      rw [h1]
      have ih := some_upd hj nd.2 ((List.mem_cons.mp h).resolve_left (Ne.symm e)) (v := v)
      by_cases h3 : (W a).isSome = true
      · rw [if_pos h3, if_pos h3, List.length_cons, List.length_cons]; (first | lia | omega)
      · rw [if_neg h3, if_neg h3]; exact ih
theorem bestO_max : ∀ (xs : List Int) (b : Int), ∃ m, xs.foldl (bestO fun x b => decide (x > b)) (some b) = some m ∧ b ≤ m ∧ (∀ x ∈ xs, x ≤ m) ∧ (m = b ∨ m ∈ xs)
  | [], b => ⟨b, rfl, Int.le_refl _, fun x h => by simp at h, .inl rfl⟩
  | x :: xs, b => by
    rw [List.foldl_cons]
    by_cases h : x > b
    · have e : bestO (fun x b => decide (x > b)) (some b) x = some x := by show (if decide (x > b) = true then some x else some b) = _; rw [if_pos (by simpa using h)]
      obtain ⟨m, h1, h2, h3, h4⟩ := bestO_max xs x
      rw [e]
      refine ⟨m, h1, by (first | lia | omega), fun y hy => ?_, ?_⟩
      · rcases List.mem_cons.mp hy with rfl | hy
        · exact h2
        · exact h3 y hy
      · rcases h4 with rfl | h4
        · exact .inr (.head _)
        · exact .inr (.tail _ h4)
    · have e : bestO (fun x b => decide (x > b)) (some b) x = some b := by show (if decide (x > b) = true then some x else some b) = _; rw [if_neg (by simpa using h)]
      obtain ⟨m, h1, h2, h3, h4⟩ := bestO_max xs b
      rw [e]
      refine ⟨m, h1, h2, fun y hy => ?_, ?_⟩
      · rcases List.mem_cons.mp hy with rfl | hy
        · (first | lia | omega)
        · exact h3 y hy
      · rcases h4 with rfl | h4
        · exact .inl rfl
        · exact .inr (.tail _ h4)
theorem maxI_spec {xs : List Int} (h : xs ≠ []) : ∃ m, maxI xs = some m ∧ m ∈ xs ∧ ∀ x ∈ xs, x ≤ m := by
  cases xs with
  | nil => exact absurd rfl h
  | cons x xs =>
    obtain ⟨m, h1, h2, h3, h4⟩ := bestO_max xs x
    refine ⟨m, h1, ?_, fun y hy => ?_⟩
    · rcases h4 with rfl | h4
      · exact .head _
      · exact .tail _ h4
    · rcases List.mem_cons.mp hy with rfl | hy
      · exact h2
      · exact h3 y hy

section
variable {g : List (List Int)} {ts keys : List Int} {S : Int → List Int} {st : RS} {x : PI} {j : Nat} {ws : WS}
structure WInv (g : List (List Int)) (ts : List Int) (st : RS) (x : PI) (j : Nat) (ws : WS) : Prop where
  hl : ws.hours.length = 7
  w : ∀ q, 0 ≤ q → q < 7 → wOf ws.hours q = if q < (j : Int) ∧ x.2 ∈ gI g q ∧ wOf st.hours q = none then some (x.1 + tI ts q) else wOf st.hours q
  n1 : ∀ q, 0 ≤ q → q < 7 → ws.P.1 (7 + q) = if (wOf ws.hours q).isNone then -1 else -2
  n2 : ∀ p, 0 ≤ p → p < 7 → ws.P.1 p = if cn g (wOf st.hours) p = 0 then -1 else (cn g (wOf ws.hours) p : Int)
  rd : ∀ p, p ∈ ws.P.2 ↔ 0 ≤ p ∧ p < 7 ∧ cn g (wOf st.hours) p ≠ 0 ∧ cn g (wOf ws.hours) p = 0
  nd : ws.P.2.Nodup
  nf : ws.nf = (((rangeI 0 7).filter fun q => (wOf ws.hours q).isSome).length : Int)

theorem WInv.start (I : RInv g ts st) : WInv g ts st x 0 ⟨st.hours, (st.N, []), st.nf⟩ := by
  refine ⟨I.hl, fun q h0 h7 => ?_, I.n1, I.n2, fun p => ?_, List.nodup_nil, I.nf⟩
  · rw [if_neg (by (first | lia | omega))]
  · simp

theorem WInv.step (G : Game g ts) (O : SOk g keys S) (hj : j < 7) (I : WInv g ts st x j ws) : WInv g ts st x (j + 1) (wonStep g ts S x.1 x.2 ws j) := by
  have wj := I.w j (by (first | lia | omega)) (by (first | lia | omega))
  rw [if_neg (by (first | lia | omega))] at wj
  unfold wonStep
  by_cases hc : ((gI g j).any (· == x.2) && (wOf ws.hours j).isNone) = true
  · rw [if_pos hc]
    rw [Bool.and_eq_true] at hc
    have hx : x.2 ∈ gI g j := by
      have := hc.1
      rw [List.any_eq_true] at this
      obtain ⟨y, hy, e⟩ := this
      have e : y = x.2 := by simpa using e
      exact e ▸ hy
    have hn : wOf ws.hours j = none := by simpa using hc.2
    have hn0 : wOf st.hours j = none := wj ▸ hn
    have hS := O.s2 j (by (first | lia | omega)) (by (first | lia | omega))
    have hSnd : (S (7 + (j : Int))).Nodup := by rw [hS]; exact (nodup_of_lt (rangeI_sorted _ _)).filter _
    have hSm : ∀ p, p ∈ S (7 + (j : Int)) ↔ (0 ≤ p ∧ p < 7) ∧ (j : Int) ∈ gI g p := fun p => by rw [hS, List.mem_filter, rangeI_mem]; simp
    have eW : wOf (ws.hours.set j (some (x.1 + tI ts j))) = upd (wOf ws.hours) j (some (x.1 + tI ts j)) := wOf_set (by rw [I.hl]; exact hj)
    have eP : doneAll S ws.P [7 + (j : Int)] = ((fun y => if y ∈ S (7 + (j : Int)) then upd ws.P.1 (7 + (j : Int)) (-2) y - 1 else upd ws.P.1 (7 + (j : Int)) (-2) y), ws.P.2 ++ (S (7 + (j : Int))).filter fun y => decide (upd ws.P.1 (7 + (j : Int)) (-2) y - 1 = 0)) := by
      show (S (7 + (j : Int))).foldl decr (upd ws.P.1 (7 + (j : Int)) (-2), ws.P.2) = _
      exact decr_all _ _ _ hSnd
    have hcn : ∀ p, 0 ≤ p → p < 7 → cn g (upd (wOf ws.hours) j (some (x.1 + tI ts j))) p + (if (j : Int) ∈ gI g p then 1 else 0) = cn g (wOf ws.hours) p := fun p h0 h7 => cn_upd (nodup_of_lt (G.gs p h0 h7)) hn
    have hold : ∀ p, 0 ≤ p → p < 7 → (j : Int) ∈ gI g p → cn g (wOf st.hours) p ≠ 0 := fun p h0 h7 hm h => by
      have := cn_zero.mp h j hm
      rw [hn0] at this; cases this
    have hup : ∀ p, p < 7 → upd ws.P.1 (7 + (j : Int)) (-2) p = ws.P.1 p := fun p h7 => by unfold upd; rw [if_neg (by (first | lia | omega))]
    rw [eP]
    refine ⟨by simp [I.hl], fun q h0 h7 => ?_, fun q h0 h7 => ?_, fun p h0 h7 => ?_, fun p => ?_, ?_, ?_⟩
    · show wOf (ws.hours.set j (some (x.1 + tI ts j))) q = _
      rw [eW]
      unfold upd
      by_cases e : q = (j : Int)
      · subst e
        rw [if_pos rfl, if_pos ⟨by (first | lia | omega), hx, hn0⟩]
      · rw [if_neg e, I.w q h0 h7]
        by_cases h1 : q < (j : Int)
        · simp only [h1, true_and, show q < ((j + 1 : Nat) : Int) by (first | lia | omega)]
        · rw [if_neg (by (first | lia | omega)), if_neg (by (first | lia | omega))]
    · show (if 7 + q ∈ S (7 + (j : Int)) then _ else upd ws.P.1 (7 + (j : Int)) (-2) (7 + q)) = if (wOf (ws.hours.set j (some (x.1 + tI ts j))) q).isNone = true then -1 else -2
      rw [if_neg (by rw [hSm]; (first | lia | omega)), eW]
      unfold upd
      by_cases e : q = (j : Int)
      · subst e; rw [if_pos rfl, if_pos rfl]; rfl
      · rw [if_neg (by (first | lia | omega)), if_neg e]; exact I.n1 q h0 h7
    · show (if p ∈ S (7 + (j : Int)) then upd ws.P.1 (7 + (j : Int)) (-2) p - 1 else upd ws.P.1 (7 + (j : Int)) (-2) p) = if cn g (wOf st.hours) p = 0 then -1 else (cn g (wOf (ws.hours.set j (some (x.1 + tI ts j)))) p : Int)
      rw [eW, hup p h7, I.n2 p h0 h7]
      have h1 := hcn p h0 h7
      by_cases hm : (j : Int) ∈ gI g p
      · rw [if_pos ((hSm p).mpr ⟨⟨h0, h7⟩, hm⟩), if_neg (hold p h0 h7 hm), if_neg (hold p h0 h7 hm)]
        rw [if_pos hm] at h1; (first | lia | omega)
      · rw [if_neg (fun h => hm ((hSm p).mp h).2)]
        rw [if_neg hm] at h1
        rw [show cn g (upd (wOf ws.hours) j (some (x.1 + tI ts j))) p = cn g (wOf ws.hours) p by (first | lia | omega)]
    · show p ∈ ws.P.2 ++ (S (7 + (j : Int))).filter (fun y => decide (upd ws.P.1 (7 + (j : Int)) (-2) y - 1 = 0)) ↔ 0 ≤ p ∧ p < 7 ∧ cn g (wOf st.hours) p ≠ 0 ∧ cn g (wOf (ws.hours.set j (some (x.1 + tI ts j)))) p = 0
      rw [eW, List.mem_append, I.rd p, List.mem_filter, hSm]
      constructor
      · rintro (⟨h0, h7, h1, h2⟩ | ⟨⟨⟨h0, h7⟩, hm⟩, h2⟩)
        · have := hcn p h0 h7
          exact ⟨h0, h7, h1, by (first | lia | omega)⟩
        · have h3 : ws.P.1 p - 1 = 0 := by rw [← hup p h7]; simpa using h2
          rw [I.n2 p h0 h7, if_neg (hold p h0 h7 hm)] at h3
          have := hcn p h0 h7
          rw [if_pos hm] at this
          exact ⟨h0, h7, hold p h0 h7 hm, by (first | lia | omega)⟩
      · rintro ⟨h0, h7, h1, h2⟩
        have h3 := hcn p h0 h7
        by_cases hm : (j : Int) ∈ gI g p
        · rw [if_pos hm] at h3
          refine .inr ⟨⟨⟨h0, h7⟩, hm⟩, ?_⟩
          have h4 := I.n2 p h0 h7
          rw [if_neg h1] at h4
          rw [hup p h7, h4]; simp; (first | lia | omega)
        · rw [if_neg hm] at h3
          exact .inl ⟨h0, h7, h1, by (first | lia | omega)⟩
    · show (ws.P.2 ++ (S (7 + (j : Int))).filter fun y => decide (upd ws.P.1 (7 + (j : Int)) (-2) y - 1 = 0)).Nodup
      rw [List.nodup_append]
      refine ⟨I.nd, hSnd.filter _, fun a ha b hb e => ?_⟩
      subst e
      rw [List.mem_filter, hSm] at hb
      obtain ⟨⟨⟨h0, h7⟩, hm⟩, h2⟩ := hb
      have h3 : ws.P.1 a - 1 = 0 := by rw [← hup a h7]; simpa using h2
      rw [I.n2 a h0 h7, if_neg (hold a h0 h7 hm)] at h3
      have := ((I.rd a).mp ha).2.2.2
      (first | lia | omega)
    · show ws.nf + 1 = (((rangeI 0 7).filter fun q => (wOf (ws.hours.set j (some (x.1 + tI ts j))) q).isSome).length : Int)
      rw [eW, some_upd hn (nodup_of_lt (rangeI_sorted _ _)) (rangeI_mem.mpr ⟨by (first | lia | omega), by (first | lia | omega)⟩), I.nf]; simp
  · rw [if_neg hc]
    refine ⟨I.hl, fun q h0 h7 => ?_, I.n1, I.n2, I.rd, I.nd, I.nf⟩
    rw [I.w q h0 h7]
    by_cases h1 : q < (j : Int)
    · simp only [h1, true_and, show q < ((j + 1 : Nat) : Int) by (first | lia | omega)]
    · rw [if_neg (by (first | lia | omega))]
      by_cases e : q = (j : Int)
      · subst e
        rw [if_neg]
        rintro ⟨_, hx, hn⟩
        apply hc
        rw [wj, hn, Bool.and_eq_true]
        refine ⟨?_, rfl⟩
        rw [List.any_eq_true]
        exact ⟨x.2, hx, by simp⟩
      · rw [if_neg (by (first | lia | omega))]

theorem WInv.all (G : Game g ts) (O : SOk g keys S) (I : RInv g ts st) : ∀ j, j ≤ 7 → WInv g ts st x j (wonAll g ts S x.1 x.2 ⟨st.hours, (st.N, []), st.nf⟩ j)
  | 0, _ => WInv.start I
  | j + 1, hj => by
    rw [wonAll_succ]
    exact (WInv.all G O I j (by (first | lia | omega))).step G O (by (first | lia | omega))

theorem push_perm (hours : List (Option Int)) : ∀ (rd : List Int) (h : List PI), (rd.foldl (pushStep g ts hours) h).Perm (rd.map (fun q => ((lastOf g hours q).getD 0 + tI ts q, q)) ++ h)
  | [], h => .refl _
  | q :: rd, h => by
    rw [List.foldl_cons, List.map_cons]
    refine (push_perm hours rd _).trans ?_
    refine ((pushK_perm h _).append_left _).trans ?_
    exact List.perm_middle
theorem push_heap (hours : List (Option Int)) : ∀ (rd : List Int) (h : List PI), IsHeap h → IsHeap (rd.foldl (pushStep g ts hours) h)
  | [], h, H => H
  | q :: rd, h, H => push_heap hours rd _ (pushK_heap h _ H)

theorem RInv.step (G : Game g ts) (O : SOk g keys S) (I : RInv g ts st) (hne : st.heap ≠ []) : StepOk g ts S st ∧ RInv g ts (runStep g ts S st) := by
  have hx0 : st.heap[0]? = some (topOf st) := by
    unfold topOf
    exact getD_some (List.length_pos_iff.mpr hne)
  have V : ∀ j, j ≤ 7 → WInv g ts st (topOf st) j (wonOf g ts S st j) := fun j hj => WInv.all G O I j hj
  have V7 := V 7 (Nat.le_refl _)
  obtain ⟨hph, hpp⟩ := popK_spec st.heap (topOf st) hx0 I.hp
  have hmin := heap_min_mem I.hp hx0
  have hxh : topOf st ∈ st.heap := List.mem_of_getElem? hx0
  have hxr := I.ent (topOf st) (List.mem_append_right _ hxh)
  have hlen7 : (st.log ++ st.heap).length ≤ 7 := by
    rw [← List.length_map (f := fun y : PI => y.2)]
    refine nodup_lt7 7 _ I.nd fun y hy => ?_
    obtain ⟨z, hz, rfl⟩ := List.mem_map.mp hy
    have := I.ent z hz
    exact ⟨this.1, this.2.1⟩
  rw [List.length_append] at hlen7
  have hh1 : 0 < st.heap.length := List.length_pos_iff.mpr hne
  have w7 : ∀ q, 0 ≤ q → q < 7 → wOf (wonOf g ts S st 7).hours q = if (topOf st).2 ∈ gI g q ∧ wOf st.hours q = none then some ((topOf st).1 + tI ts q) else wOf st.hours q := fun q h0 h7 => by
    rw [V7.w q h0 h7]
    simp only [show q < ((7 : Nat) : Int) from h7, true_and]
  have wkeep : ∀ q, 0 ≤ q → q < 7 → ∀ h, wOf st.hours q = some h → wOf (wonOf g ts S st 7).hours q = some h := fun q h0 h7 h e => by
    rw [w7 q h0 h7, if_neg (by rw [e]; simp), e]
  have ckeep : ∀ p, 0 ≤ p → p < 7 → cn g (wOf st.hours) p = 0 → cn g (wOf (wonOf g ts S st 7).hours) p = 0 := fun p h0 h7 h => by
    rw [cn_zero] at h ⊢
    intro r hr
    have := G.gr p h0 h7 r hr
    obtain ⟨v, hv⟩ := Option.isSome_iff_exists.mp (h r hr)
    rw [wkeep r this.1 this.2 v hv]; rfl
  have lkeep : ∀ p, 0 ≤ p → p < 7 → cn g (wOf st.hours) p = 0 → lhOf g ts (wOf (wonOf g ts S st 7).hours) p = lhOf g ts (wOf st.hours) p := fun p h0 h7 h => by
    rw [cn_zero] at h
    unfold lhOf
    have e : (gI g p).map (fun r => (wOf (wonOf g ts S st 7).hours r).getD 0) = (gI g p).map fun r => (wOf st.hours r).getD 0 := List.map_congr_left fun r hr => by
      have := G.gr p h0 h7 r hr
      obtain ⟨v, hv⟩ := Option.isSome_iff_exists.mp (h r hr)
      rw [wkeep r this.1 this.2 v hv, hv]
    rw [e]
  have rdy : ∀ q ∈ (wonOf g ts S st 7).P.2, 0 ≤ q ∧ q < 7 ∧ gI g q ≠ [] ∧ ∀ r ∈ gI g q, 0 ≤ r ∧ r < 7 ∧ (wOf (wonOf g ts S st 7).hours r).isSome = true := fun q hq => by
    obtain ⟨h0, h7, h1, h2⟩ := (V7.rd q).mp hq
    refine ⟨h0, h7, fun e => h1 (by unfold cn; rw [e]; rfl), fun r hr => ?_⟩
    have := G.gr q h0 h7 r hr
    exact ⟨this.1, this.2, cn_zero.mp h2 r hr⟩
  have hrdl : (wonOf g ts S st 7).P.2.length ≤ 7 := nodup_lt7 7 _ V7.nd fun q hq => let h := (V7.rd q).mp hq; ⟨h.1, h.2.1⟩
  have hpl := hpp.length_eq
  simp only [List.length_cons] at hpl
  have hstep : StepOk g ts S st := by
    refine ⟨hx0, ⟨by (first | lia | omega), by (first | lia | omega)⟩, fun j hj => ⟨(V j hj).hl, nodup_lt7 7 _ (V j hj).nd fun q hq => let h := ((V j hj).rd q).mp hq; ⟨h.1, h.2.1⟩⟩, fun j hj _ hn => ?_, rdy, fun k => ?_⟩
    · rw [(V j (by (first | lia | omega))).n1 j (by (first | lia | omega)) (by (first | lia | omega)), hn]; rfl
    · have := (push_perm (g := g) (ts := ts) (wonOf g ts S st 7).hours ((wonOf g ts S st 7).P.2.take k) (popK st.heap)).length_eq
      rw [this, List.length_append, List.length_map, List.length_take]
      (first | lia | omega)
  refine ⟨hstep, ?_⟩
  have hP := push_perm (g := g) (ts := ts) (wonOf g ts S st 7).hours (wonOf g ts S st 7).P.2 (popK st.heap)
  generalize hrd : (wonOf g ts S st 7).P.2 = rd at *
  have hPall : ((st.log ++ [topOf st]) ++ rd.foldl (pushStep g ts (wonOf g ts S st 7).hours) (popK st.heap)).Perm ((st.log ++ st.heap) ++ rd.map fun q => ((lastOf g (wonOf g ts S st 7).hours q).getD 0 + tI ts q, q)) := by
    refine (hP.append_left _).trans ?_
    refine (List.perm_append_comm.append_left _).trans ?_
    rw [← List.append_assoc]
    refine List.Perm.append_right _ ?_
    rw [List.append_assoc]
    exact hpp.symm.append_left _
  have hrdm : ∀ p, p ∈ rd ↔ 0 ≤ p ∧ p < 7 ∧ cn g (wOf st.hours) p ≠ 0 ∧ cn g (wOf (wonOf g ts S st 7).hours) p = 0 := fun p => by rw [← hrd]; exact V7.rd p
  have hnew : ∀ y ∈ rd.map (fun q => ((lastOf g (wonOf g ts S st 7).hours q).getD 0 + tI ts q, q)), ∃ q ∈ rd, y = ((lastOf g (wonOf g ts S st 7).hours q).getD 0 + tI ts q, q) := fun y hy => by
    obtain ⟨q, hq, e⟩ := List.mem_map.mp hy
    exact ⟨q, hq, e.symm⟩
  have hbig : ∀ q ∈ rd, (topOf st).1 < (lastOf g (wonOf g ts S st 7).hours q).getD 0 + tI ts q := fun q hq => by
    obtain ⟨h0, h7, h1, h2⟩ := (hrdm q).mp hq
    have hex : ∃ r ∈ gI g q, wOf st.hours r = none := by
      apply Classical.byContradiction
      intro hno
      apply h1
      rw [cn_zero]
      intro r hr
      cases e : wOf st.hours r with
      | some v => rfl
      | none => exact absurd ⟨r, hr, e⟩ hno
    obtain ⟨r, hr, hrn⟩ := hex
    have hrr := G.gr q h0 h7 r hr
    have hs := cn_zero.mp h2 r hr
    have hw := w7 r hrr.1 hrr.2
    by_cases hin : (topOf st).2 ∈ gI g r ∧ wOf st.hours r = none
    · rw [if_pos hin] at hw
      obtain ⟨m, hm1, hm2, hm3⟩ := maxI_spec (xs := (gI g q).map fun r => (wOf (wonOf g ts S st 7).hours r).getD 0) (by intro e; rw [List.map_eq_nil_iff] at e; rw [e] at hr; simp at hr)
      have := hm3 _ (List.mem_map_of_mem hr)
      rw [hw] at this
      unfold lastOf
      rw [hm1]
      have t1 := G.tr r hrr.1 hrr.2
      have t2 := G.tr q h0 h7
      simp only [Option.getD_some] at this ⊢
      (first | lia | omega)
    · rw [if_neg hin, hrn] at hw
      rw [hw] at hs; cases hs
  have hxne : ∀ z ∈ popK st.heap, z ≠ topOf st := fun z hz e => by
    have h1 : ((st.log ++ st.heap).map (·.2)).Perm ((st.log ++ (topOf st :: popK st.heap)).map (·.2)) := (hpp.append_left _).map _
    have h2 := (h1.nodup_iff).mp I.nd
    rw [List.map_append, List.nodup_append] at h2
    have h3 := h2.2.1
    simp only [List.map_cons, List.nodup_cons] at h3
    exact h3.1 (List.mem_map_of_mem (f := fun y : PI => y.2) (e ▸ hz))
  have hsub : ∀ z ∈ popK st.heap, z ∈ st.heap := fun z hz => hpp.symm.subset (.tail _ hz)
  refine ⟨V7.hl, fun q h0 h7 => ?_, fun p h0 h7 => ?_, fun y hy => ?_, fun p h0 h7 hp => ?_, ?_, fun q h0 h7 hn y hy => ?_, fun q h0 h7 h hh => ?_, ?_, fun y hy z hz => ?_, ?_, ?_, V7.nf⟩
  · show outN (wonOf g ts S st 7).P.1 (wonOf g ts S st 7).P.2 (7 + q) = _
    rw [outN_eq, hrd, if_neg (by rw [hrdm]; (first | lia | omega))]
    exact V7.n1 q h0 h7
  · show outN (wonOf g ts S st 7).P.1 (wonOf g ts S st 7).P.2 p = if cn g (wOf (wonOf g ts S st 7).hours) p = 0 then -1 else (cn g (wOf (wonOf g ts S st 7).hours) p : Int)
    rw [outN_eq, hrd]
    by_cases hm : p ∈ rd
    · rw [if_pos hm, if_pos ((hrdm p).mp hm).2.2.2]
    · rw [if_neg hm, V7.n2 p h0 h7]
      by_cases hc : cn g (wOf st.hours) p = 0
      · rw [if_pos hc, if_pos (ckeep p h0 h7 hc)]
      · rw [if_neg hc, if_neg fun h => hm ((hrdm p).mpr ⟨h0, h7, hc, h⟩)]
  · have hy : y ∈ (st.log ++ [topOf st]) ++ rd.foldl (pushStep g ts (wonOf g ts S st 7).hours) (popK st.heap) := by
      have : y ∈ (runStep g ts S st).log ++ (runStep g ts S st).heap := hy
      unfold runStep at this
      rw [hrd] at this; exact this
    show 0 ≤ y.2 ∧ y.2 < 7 ∧ cn g (wOf (wonOf g ts S st 7).hours) y.2 = 0 ∧ y.1 = lhOf g ts (wOf (wonOf g ts S st 7).hours) y.2
    rcases List.mem_append.mp (hPall.subset hy) with h | h
    · have := I.ent y h
      refine ⟨this.1, this.2.1, ckeep _ this.1 this.2.1 this.2.2.1, ?_⟩
      rw [lkeep _ this.1 this.2.1 this.2.2.1]; exact this.2.2.2
    · obtain ⟨q, hq, rfl⟩ := hnew y h
      obtain ⟨h0, h7, h1, h2⟩ := (hrdm q).mp hq
      refine ⟨h0, h7, h2, ?_⟩
      have := (rdy q hq).2.2.1
      unfold lhOf
      rw [if_neg this]; rfl
  · show p ∈ ((runStep g ts S st).log ++ (runStep g ts S st).heap).map (·.2)
    have hp : cn g (wOf (wonOf g ts S st 7).hours) p = 0 := hp
    unfold runStep
    simp only [hrd]
    refine (hPall.map (·.2)).symm.subset ?_
    rw [List.map_append, List.mem_append]
    by_cases hc : cn g (wOf st.hours) p = 0
    · exact .inl (I.all p h0 h7 hc)
    · refine .inr ?_
      rw [List.map_map]
      exact List.mem_map.mpr ⟨p, (hrdm p).mpr ⟨h0, h7, hc, hp⟩, rfl⟩
  · unfold runStep
    simp only [hrd]
    rw [(hPall.map (·.2)).nodup_iff, List.map_append, List.nodup_append]
    refine ⟨I.nd, ?_, fun a ha b hb e => ?_⟩
    · rw [List.map_map]
      show (rd.map fun q => q).Nodup
      rw [List.map_id']
      rw [← hrd]; exact V7.nd
    · subst e
      obtain ⟨y, hy, rfl⟩ := List.mem_map.mp ha
      rw [List.map_map] at hb
      obtain ⟨q, hq, e⟩ := List.mem_map.mp hb
      have e : q = y.2 := e
      exact ((hrdm q).mp hq).2.2.1 (by rw [e]; exact (I.ent y hy).2.2.1)
  · have hn : wOf (wonOf g ts S st 7).hours q = none := hn
    have hy : y ∈ st.log ++ [topOf st] := hy
    have hw := w7 q h0 h7
    rw [hn] at hw
    by_cases hin : (topOf st).2 ∈ gI g q ∧ wOf st.hours q = none
    · rw [if_pos hin] at hw; cases hw
    · rw [if_neg hin] at hw
      rcases List.mem_append.mp hy with h | h
      · exact I.wn q h0 h7 hw.symm y h
      · simp at h; subst h
        exact fun hm => hin ⟨hm, hw.symm⟩
  · have hh : wOf (wonOf g ts S st 7).hours q = some h := hh
    show ∃ x ∈ st.log ++ [topOf st], x.2 ∈ gI g q ∧ h = x.1 + tI ts q ∧ ∀ y ∈ st.log ++ [topOf st], y.2 ∈ gI g q → x.1 ≤ y.1
    rw [w7 q h0 h7] at hh
    by_cases hin : (topOf st).2 ∈ gI g q ∧ wOf st.hours q = none
    · rw [if_pos hin] at hh
      refine ⟨topOf st, by simp, hin.1, by injection hh with hh; exact hh.symm, fun y hy hm => ?_⟩
      rcases List.mem_append.mp hy with h | h
      · exact absurd hm (I.wn q h0 h7 hin.2 y h)
      · simp at h; subst h; exact Int.le_refl _
    · rw [if_neg hin] at hh
      obtain ⟨y, hy, hy2, hy3, hy4⟩ := I.ws q h0 h7 h hh
      refine ⟨y, List.mem_append_left _ hy, hy2, hy3, fun z hz hm => ?_⟩
      rcases List.mem_append.mp hz with h | h
      · exact hy4 z h hm
      · simp at h; subst h
        have := ltP_iff.mp (I.lh y hy (topOf st) hxh)
        (first | lia | omega)
  · show (st.log ++ [topOf st]).Pairwise fun x y => ltP x y = true
    rw [List.pairwise_append]
    refine ⟨I.srt, List.pairwise_singleton _ _, fun y hy z hz => ?_⟩
    simp at hz; subst hz
    exact I.lh y hy _ hxh
  · have hy : y ∈ st.log ++ [topOf st] := hy
    have hz : z ∈ rd.foldl (pushStep g ts (wonOf g ts S st 7).hours) (popK st.heap) := by
      have : z ∈ (runStep g ts S st).heap := hz
      unfold runStep at this
      rw [hrd] at this; exact this
    have h1 : leP y (topOf st) := by
      rcases List.mem_append.mp hy with h | h
      · exact leP_of_lt (I.lh y h _ hxh)
      · simp at h; subst h; exact leP_refl _
    rcases List.mem_append.mp (hP.subset hz) with h | h
    · obtain ⟨q, hq, rfl⟩ := hnew z h
      have h2 := hbig q hq
      rw [leP_iff] at h1
      rw [ltP_iff]
      simp only []
      (first | lia | omega)
    · rcases List.mem_append.mp hy with h3 | h3
      · exact I.lh y h3 z (hsub z h)
      · simp at h3; subst h3
        exact ltP_of_le_ne (hmin z (hsub z h)) (Ne.symm (hxne z h))
  · unfold runStep
    simp only [hrd]
    exact push_heap _ _ _ hph
  · unfold runStep
    simp only [hrd]
    rw [hPall.length_eq, List.length_append, List.length_map, I.np]
    (first | lia | omega)
end
end text_P3
section text_Pu2
set_option maxRecDepth 100000

noncomputable def bookStep (bk : List Int) (x : PI) : List Int := bk.set x.1.toNat (Builtin.bitXor (bk.getD x.1.toNat 0) (1 * 2 ^ x.2.toNat))
noncomputable def bookOf (ps : List PI) : List Int := ps.foldl bookStep (List.replicate 7 0)
theorem bookOf_len (ps : List PI) : (bookOf ps).length = 7 := by
  unfold bookOf
  suffices ∀ bk : List Int, bk.length = 7 → (ps.foldl bookStep bk).length = 7 from this _ (by simp)
  induction ps with
  | nil => exact fun bk h => h
  | cons x ps ih => exact fun bk h => ih _ (by unfold bookStep; simp [h])
theorem bookOf_snoc (ps : List PI) (x : PI) : bookOf (ps ++ [x]) = bookStep (bookOf ps) x := by unfold bookOf; rw [List.foldl_append]; rfl
noncomputable def goalRow (bk : List Int) (p n : Nat) : List Int := ((List.range n).filter fun (q : Nat) => Builtin.bitAnd (bk.getD p 0) (1 * 2 ^ q) != 0).map Int.ofNat
noncomputable def goalsOf (bk : List Int) : List (List Int) := (List.range 7).map fun p => goalRow bk p 7
theorem goalRow_len (bk : List Int) (p n : Nat) : (goalRow bk p n).length ≤ n := by
  unfold goalRow
  have := List.length_filter_le (fun q : Nat => Builtin.bitAnd (bk.getD p 0) (1 * 2 ^ q) != 0) (List.range n)
  simpa using this
theorem goalRow_yes {bk : List Int} {p j : Nat} (h : (Builtin.bitAnd (bk.getD p 0) (1 * 2 ^ j) != 0) = true) : goalRow bk p (j + 1) = goalRow bk p j ++ [(j : Int)] := by
  unfold goalRow; rw [List.range_succ, List.filter_append, List.map_append, List.filter_cons, if_pos h]; rfl
theorem goalRow_no {bk : List Int} {p j : Nat} (h : ¬ (Builtin.bitAnd (bk.getD p 0) (1 * 2 ^ j) != 0) = true) : goalRow bk p (j + 1) = goalRow bk p j := by
  unfold goalRow; rw [List.range_succ, List.filter_append, List.filter_cons, if_neg h]; simp

structure AS where
  keys : List Int
  N : Int → Int
  S : Int → List Int
noncomputable def addOne (a : AS) (k : Int) (ps : List Int) : AS := ⟨addK (addKey a.keys k) ps, upd a.N k (a.N k + ps.length), addS a.S k ps⟩
noncomputable def predsOf (g : List (List Int)) (p : Nat) : List Int := (g.getD p []).map fun q => 7 + q
noncomputable def addPos (g : List (List Int)) (a : AS) (p : Nat) : AS := addOne (addOne a (7 + (p : Int)) []) p (predsOf g p)
noncomputable def addsOf (g : List (List Int)) (k : Nat) : AS := (List.range k).foldl (addPos g) ⟨[], fun _ => 0, fun _ => []⟩
theorem addsOf_succ (g : List (List Int)) (k : Nat) : addsOf g (k + 1) = addPos g (addsOf g k) k := by unfold addsOf; rw [List.range_succ, List.foldl_append]; rfl
theorem addOne_keys (a : AS) (k : Int) (ps : List Int) : ∀ x, x ∈ (addOne a k ps).keys ↔ x ∈ a.keys ∨ x = k ∨ x ∈ ps := by
  intro x
  unfold addOne addK
  simp only []
  suffices ∀ (l : List Int), x ∈ ps.foldl addKey l ↔ x ∈ l ∨ x ∈ ps by rw [this, addKey_mem]; exact or_assoc
  intro l
  induction ps generalizing l with
  | nil => simp
  | cons p ps ih => rw [List.foldl_cons, ih, addKey_mem, List.mem_cons]; exact or_assoc
theorem addS_eq (S : Int → List Int) (k : Int) : ∀ (ps : List Int), ps.Nodup → ∀ x, addS S k ps x = if x ∈ ps then S x ++ [k] else S x := by
  intro ps
  induction ps generalizing S with
  | nil => intro _ x; simp [addS]
  | cons p ps ih =>
    intro nd x
    simp only [List.nodup_cons] at nd
    show addS (upd S p (S p ++ [k])) k ps x = _
    rw [ih _ nd.2]
    unfold upd
    by_cases e : x = p
    · subst e
      rw [if_neg nd.1, if_pos rfl, if_pos List.mem_cons_self]
    · rw [if_neg e]
      by_cases h : x ∈ ps
      · rw [if_pos h, if_pos (List.mem_cons_of_mem _ h)]
      · rw [if_neg h, if_neg (by simp [e, h])]

structure AInv (g : List (List Int)) (j : Nat) (a : AS) : Prop where
  km : ∀ k, k ∈ a.keys ↔ (0 ≤ k ∧ k < (j : Int)) ∨ (7 ≤ k ∧ k < 7 + (j : Int)) ∨ ∃ p : Nat, p < j ∧ k - 7 ∈ gI g p
  n : ∀ k, a.N k = if 0 ≤ k ∧ k < (j : Int) then ((gI g k).length : Int) else 0
  s0 : ∀ k, ¬ (7 ≤ k ∧ k < 14) → a.S k = []
  s2 : ∀ q, 0 ≤ q → q < 7 → a.S (7 + q) = (rangeI 0 j).filter fun p => decide (q ∈ gI g p)
theorem AInv.all {g : List (List Int)} {ts : List Int} (G : Game g ts) : ∀ j, j ≤ 7 → AInv g j (addsOf g j)
  | 0, _ => ⟨fun k => by show k ∈ [] ↔ _; simp, fun k => by show (0 : Int) = _; rw [if_neg (by (first | lia | omega))], fun k _ => rfl, fun q _ _ => rfl⟩
  | j + 1, hj => by
    have I := AInv.all G j (by (first | lia | omega))
    rw [addsOf_succ]
    generalize addsOf g j = a at I
    have hgj : g.getD j [] = gI g j := by unfold gI; rw [Int.toNat_natCast]
    have hmp : ∀ x, x ∈ predsOf g j ↔ x - 7 ∈ gI g j := fun x => by
      unfold predsOf
      rw [hgj, List.mem_map]
      exact ⟨fun ⟨q, hq, e⟩ => by rw [← e]; rw [show 7 + q - 7 = q by (first | lia | omega)]; exact hq, fun h => ⟨x - 7, h, by (first | lia | omega)⟩⟩
    have hpnd : (predsOf g j).Nodup := by
      unfold predsOf
      rw [hgj]
      unfold List.Nodup
      rw [List.pairwise_map]
      exact (G.gs j (by (first | lia | omega)) (by (first | lia | omega))).imp fun h e => by (first | lia | omega)
    unfold addPos
    refine ⟨fun k => ?_, fun k => ?_, fun k hk => ?_, fun q h0 h7 => ?_⟩
    · rw [addOne_keys, addOne_keys, I.km, hmp]
      constructor
      · rintro ((((h | h | ⟨p, hp, h⟩) | h | h) | h | h))
        · exact .inl (by (first | lia | omega))
        · exact .inr (.inl (by (first | lia | omega)))
        · exact .inr (.inr ⟨p, by (first | lia | omega), h⟩)
        · exact .inr (.inl (by (first | lia | omega)))
        · simp at h
        · exact .inl (by (first | lia | omega))
        · exact .inr (.inr ⟨j, by (first | lia | omega), h⟩)
      · rintro (h | h | ⟨p, hp, h⟩)
        · by_cases e : k = (j : Int)
          · exact .inr (.inl e)
          · exact .inl (.inl (.inl (by (first | lia | omega))))
        · by_cases e : k = 7 + (j : Int)
          · exact .inl (.inr (.inl e))
          · exact .inl (.inl (.inr (.inl (by (first | lia | omega)))))
        · by_cases e : p = j
          · subst e; exact .inr (.inr h)
          · exact .inl (.inl (.inr (.inr ⟨p, by (first | lia | omega), h⟩)))
    · show upd (upd a.N (7 + (j : Int)) (a.N (7 + (j : Int)) + (([] : List Int).length : Int))) (j : Int) (upd a.N (7 + (j : Int)) (a.N (7 + (j : Int)) + (([] : List Int).length : Int)) (j : Int) + ((predsOf g j).length : Int)) k = _
      have hl : (predsOf g j).length = (gI g j).length := by unfold predsOf; rw [hgj, List.length_map]
      unfold upd
      by_cases e : k = (j : Int)
      · subst e
        rw [if_pos rfl, if_neg (by (first | lia | omega)), if_pos (by (first | lia | omega)), I.n, if_neg (by (first | lia | omega)), hl]; (first | lia | omega)
      · rw [if_neg e]
        by_cases e2 : k = 7 + (j : Int)
        · rw [if_pos e2, if_neg (by (first | lia | omega)), I.n, if_neg (by (first | lia | omega))]; simp
        · rw [if_neg e2, I.n]
          by_cases h : 0 ≤ k ∧ k < (j : Int)
          · rw [if_pos h, if_pos (by (first | lia | omega))]
          · rw [if_neg h, if_neg (by (first | lia | omega))]
    · show addS (addS a.S (7 + (j : Int)) []) (j : Int) (predsOf g j) k = []
      rw [addS_eq _ _ _ hpnd, if_neg (fun h => by
        rw [hmp] at h
        have := G.gr j (by (first | lia | omega)) (by (first | lia | omega)) _ h
        (first | lia | omega))]
      exact I.s0 k hk
    · show addS (addS a.S (7 + (j : Int)) []) (j : Int) (predsOf g j) (7 + q) = _
      rw [addS_eq _ _ _ hpnd]
      have e1 : (7 + q ∈ predsOf g j) ↔ q ∈ gI g j := by rw [hmp, show 7 + q - 7 = q by (first | lia | omega)]
      have e2 : addS a.S (7 + (j : Int)) [] (7 + q) = a.S (7 + q) := rfl
      rw [e2, I.s2 q h0 h7, rangeI_succ, List.filter_append, List.filter_cons, show (0 : Int) + (j : Int) = (j : Int) by (first | lia | omega)]
      by_cases h : q ∈ gI g j
      · rw [if_pos (e1.mpr h), if_pos (by simpa using h)]; rfl
      · rw [if_neg (fun hh => h (e1.mp hh)), if_neg (by simpa using h)]; simp
theorem AInv.sok {g : List (List Int)} {ts : List Int} (G : Game g ts) {a : AS} (I : AInv g 7 a) : SOk g a.keys a.S := by
  refine ⟨fun k => ?_, I.s0, I.s2⟩
  rw [I.km]
  constructor
  · rintro (h | h | ⟨p, hp, h⟩)
    · (first | lia | omega)
    · (first | lia | omega)
    · have := G.gr p (by (first | lia | omega)) (by (first | lia | omega)) _ h
      (first | lia | omega)
  · intro h
    by_cases h7 : k < 7
    · exact .inl (by (first | lia | omega))
    · exact .inr (.inl (by (first | lia | omega)))

noncomputable def runInit (a : AS) : RS :=
  ⟨((readyOf a.keys a.N).filter fun k => decide (k < 7)).foldl (fun h k => pushK h (0, k)) [], [], List.replicate 7 none, outN a.N (readyOf a.keys a.N), ((readyOf a.keys a.N).length : Int), 0⟩
theorem init_perm : ∀ (ks : List Int) (h : List PI), (ks.foldl (fun h k => pushK h (0, k)) h).Perm (ks.map (fun k => ((0 : Int), k)) ++ h)
  | [], h => .refl _
  | k :: ks, h => by
    rw [List.foldl_cons, List.map_cons]
    exact (init_perm ks _).trans (((pushK_perm h _).append_left _).trans List.perm_middle)
theorem init_heap : ∀ (ks : List Int) (h : List PI), IsHeap h → IsHeap (ks.foldl (fun h k => pushK h (0, k)) h)
  | [], h, H => H
  | k :: ks, h, H => init_heap ks _ (pushK_heap h _ H)
theorem wOf_none (q : Int) : wOf (List.replicate 7 none) q = none := by
  unfold wOf
  split
  · rw [List.getD_eq_getElem?_getD, List.getElem?_replicate]; split <;> rfl
  · rfl
theorem cn_none {g : List (List Int)} (p : Int) : cn g (wOf (List.replicate 7 none)) p = (gI g p).length := by
  unfold cn
  rw [List.filter_eq_self.mpr fun r _ => by rw [wOf_none]; rfl]
theorem runInit_inv {g : List (List Int)} {ts : List Int} (G : Game g ts) {a : AS} (I : AInv g 7 a) (nd : a.keys.Nodup) : RInv g ts (runInit a) := by
  have O := I.sok G
  have hrm : ∀ k, k ∈ readyOf a.keys a.N ↔ (0 ≤ k ∧ k < 14) ∧ a.N k = 0 := fun k => by
    unfold readyOf; rw [List.mem_filter, O.km]; simp
  have hrnd : (readyOf a.keys a.N).Nodup := nd.filter _
  have hn7 : ∀ q, 7 ≤ q → a.N q = 0 := fun q h => by rw [I.n, if_neg (by (first | lia | omega))]
  have hnp : ∀ p, 0 ≤ p → p < 7 → a.N p = ((gI g p).length : Int) := fun p h0 h7 => by rw [I.n, if_pos (by (first | lia | omega))]
  have hP := init_perm ((readyOf a.keys a.N).filter fun k => decide (k < 7)) []
  rw [List.append_nil] at hP
  have hsnd : ((runInit a).heap.map (·.2)).Perm ((readyOf a.keys a.N).filter fun k => decide (k < 7)) := by
    refine (hP.map (·.2)).trans ?_
    rw [List.map_map]
    show (((readyOf a.keys a.N).filter fun k => decide (k < 7)).map fun k => k).Perm _
    rw [List.map_id']
  have hmm : ∀ p, p ∈ (readyOf a.keys a.N).filter (fun k => decide (k < 7)) ↔ 0 ≤ p ∧ p < 7 ∧ gI g p = [] := fun p => by
    rw [List.mem_filter, hrm]
    constructor
    · rintro ⟨⟨⟨h0, _⟩, hz⟩, h7⟩
      have h7 : p < 7 := by simpa using h7
      rw [hnp p h0 h7] at hz
      exact ⟨h0, h7, List.length_eq_zero_iff.mp (by (first | lia | omega))⟩
    · rintro ⟨h0, h7, e⟩
      refine ⟨⟨⟨h0, by (first | lia | omega)⟩, ?_⟩, by simpa using h7⟩
      rw [hnp p h0 h7, e]; rfl
  refine ⟨by show (List.replicate 7 none).length = 7; simp, fun q h0 h7 => ?_, fun p h0 h7 => ?_, fun x hx => ?_, fun p h0 h7 hp => ?_, ?_, fun q _ _ _ x hx => by simp [runInit] at hx, fun q _ _ h hh => ?_, .nil, fun x hx => by simp [runInit] at hx, init_heap _ _ fun i h0 hl => by simp at hl, ?_, ?_⟩
  · show outN a.N (readyOf a.keys a.N) (7 + q) = if (wOf (List.replicate 7 none) q).isNone then -1 else -2
    rw [outN_eq, if_pos ((hrm _).mpr ⟨by (first | lia | omega), hn7 _ (by (first | lia | omega))⟩), wOf_none]; rfl
  · show outN a.N (readyOf a.keys a.N) p = if cn g (wOf (List.replicate 7 none)) p = 0 then -1 else (cn g (wOf (List.replicate 7 none)) p : Int)
    rw [outN_eq, cn_none]
    by_cases h : (gI g p).length = 0
    · rw [if_pos h, if_pos ((hrm _).mpr ⟨by (first | lia | omega), by rw [hnp p h0 h7, h]; rfl⟩)]
    · rw [if_neg h, if_neg (fun hh => h (by have := ((hrm _).mp hh).2; rw [hnp p h0 h7] at this; (first | lia | omega))), hnp p h0 h7]
  · have hx : x ∈ (runInit a).heap := by simpa [runInit] using hx
    obtain ⟨k, hk, rfl⟩ := List.mem_map.mp (hP.subset hx)
    obtain ⟨h0, h7, e⟩ := (hmm k).mp hk
    refine ⟨h0, h7, ?_, ?_⟩
    · show cn g (wOf (List.replicate 7 none)) k = 0
      rw [cn_none, e]; rfl
    · unfold lhOf; rw [if_pos e]
  · have hp : cn g (wOf (List.replicate 7 none)) p = 0 := hp
    rw [cn_none] at hp
    show p ∈ (([] ++ (runInit a).heap).map fun y : PI => y.2)
    rw [List.nil_append]
    exact hsnd.symm.subset ((hmm p).mpr ⟨h0, h7, List.length_eq_zero_iff.mp hp⟩)
  · show (([] ++ (runInit a).heap).map fun y : PI => y.2).Nodup
    rw [List.nil_append, hsnd.nodup_iff]
    exact hrnd.filter _
  · have hh : wOf (List.replicate 7 none) q = some h := hh
    rw [wOf_none] at hh; cases hh
  · show ((readyOf a.keys a.N).length : Int) = 7 + (([] ++ (runInit a).heap).length : Int)
    have h1 := hsnd.length_eq
    rw [List.length_map] at h1
    rw [List.nil_append, h1]
    have h2 := List.length_eq_countP_add_countP (fun k => decide (k < 7)) (l := readyOf a.keys a.N)
    rw [List.countP_eq_length_filter, List.countP_eq_length_filter] at h2
    have h3 : ((readyOf a.keys a.N).filter fun k => decide ¬(decide (k < 7) = true)).length = 7 := by
      have hp : ((readyOf a.keys a.N).filter fun k => decide ¬(decide (k < 7) = true)).Perm (rangeI 7 7) := by
        refine (List.perm_ext_iff_of_nodup (hrnd.filter _) (nodup_of_lt (rangeI_sorted _ _))).mpr fun k => ?_
        rw [List.mem_filter, hrm]
        unfold rangeI
        rw [List.mem_map]
        constructor
        · rintro ⟨⟨⟨h0, h14⟩, _⟩, h⟩
          have h : ¬ k < 7 := by simpa using h
          exact ⟨(k - 7).toNat, by rw [List.mem_range]; (first | lia | omega), by (first | lia | omega)⟩
        · rintro ⟨i, hi, rfl⟩
          rw [List.mem_range] at hi
          exact ⟨⟨by (first | lia | omega), hn7 _ (by (first | lia | omega))⟩, by simp; (first | lia | omega)⟩
      rw [hp.length_eq]; rfl
    (first | lia | omega)
  · show (0 : Int) = (((rangeI 0 7).filter fun q => (wOf (List.replicate 7 none) q).isSome).length : Int)
    rw [List.filter_eq_nil_iff.mpr fun q _ => by rw [wOf_none]; simp]; rfl
end text_Pu2
section text_P4
set_option maxRecDepth 100000

/-- the law's own lists -/
noncomputable def lostsOf (lost : List (Option Int)) (n : Nat) : List PI := (List.range n).filterMap fun p => (lost.getD p none).map fun h => (h, (p : Int))
noncomputable def othersOf (lost : List (Option Int)) (n : Nat) : List Int := ((List.range n).filter fun p => (lost.getD p none).isNone).map fun p : Nat => (p : Int)
noncomputable def wonsOf (won : List (Option Int)) (n : Nat) : List Int := ((List.range n).filter fun p => (won.getD p none).isSome).map fun p : Nat => 7 + (p : Int)
noncomputable def openOf (g : List (List Int)) (won : List (Option Int)) (p : Int) (n : Nat) : List Int := ((gI g p).take n).filter fun q => (won.getD q.toNat none).isNone
noncomputable def keyOf (g : List (List Int)) (won : List (Option Int)) (p : Int) : PI := ((maxI (openOf g won p (gI g p).length)).getD 0, p)
theorem lostsOf_succ (lost : List (Option Int)) (n : Nat) : lostsOf lost (n + 1) = lostsOf lost n ++ (match lost.getD n none with | some h => [(h, (n : Int))] | none => []) := by
  unfold lostsOf
  rw [List.range_succ, List.filterMap_append, List.filterMap_cons]
  cases h : lost.getD n none <;> rfl
theorem othersOf_succ (lost : List (Option Int)) (n : Nat) : othersOf lost (n + 1) = othersOf lost n ++ (match lost.getD n none with | some _ => [] | none => [(n : Int)]) := by
  unfold othersOf
  rw [List.range_succ, List.filter_append, List.map_append, List.filter_cons]
  cases h : lost.getD n none <;> rfl
theorem wonsOf_succ (won : List (Option Int)) (n : Nat) : wonsOf won (n + 1) = wonsOf won n ++ (match won.getD n none with | some _ => [7 + (n : Int)] | none => []) := by
  unfold wonsOf
  rw [List.range_succ, List.filter_append, List.map_append, List.filter_cons]
  cases h : won.getD n none <;> rfl
theorem openOf_succ {g : List (List Int)} {won : List (Option Int)} {p q : Int} {n : Nat} (hq : (gI g p)[n]? = some q) : openOf g won p (n + 1) = openOf g won p n ++ (match won.getD q.toNat none with | some _ => [] | none => [q]) := by
  unfold openOf
  rw [List.take_add_one, hq, List.filter_append, Option.toList_some, List.filter_cons]
  cases h : won.getD q.toNat none <;> rfl
theorem lostsOf_len (lost : List (Option Int)) (n : Nat) : (lostsOf lost n).length ≤ n := by
  have := List.length_filterMap_le (fun p : Nat => (lost.getD p none).map fun h => (h, (p : Int))) (List.range n)
  rw [List.length_range] at this; exact this
theorem othersOf_len (lost : List (Option Int)) (n : Nat) : (othersOf lost n).length ≤ n := by
  unfold othersOf
  rw [List.length_map]
  have := List.length_filter_le (fun p => (lost.getD p none).isNone) (List.range n)
  rw [List.length_range] at this; exact this
theorem wonsOf_len (lost : List (Option Int)) (n : Nat) : (wonsOf lost n).length ≤ n := by
  unfold wonsOf
  rw [List.length_map]
  have := List.length_filter_le (fun p => (lost.getD p none).isSome) (List.range n)
  rw [List.length_range] at this; exact this
theorem othersOf_mem {lost : List (Option Int)} {n : Nat} {p : Int} (h : p ∈ othersOf lost n) : 0 ≤ p ∧ p < n ∧ lost.getD p.toNat none = none := by
  unfold othersOf at h
  obtain ⟨k, hk, rfl⟩ := List.mem_map.mp h
  rw [List.mem_filter, List.mem_range] at hk
  refine ⟨by (first | lia | omega), by (first | lia | omega), ?_⟩
  rw [Int.toNat_natCast]
  exact Option.isNone_iff_eq_none.mp hk.2
theorem othersOf_nodup (lost : List (Option Int)) (n : Nat) : (othersOf lost n).Nodup := by
  unfold othersOf
  exact List.Pairwise.map _ (fun a b h e => h (by (first | lia | omega))) (List.nodup_range.filter _)
theorem lostsOf_nodup (lost : List (Option Int)) : ∀ n, (lostsOf lost n).Nodup ∧ ∀ x ∈ lostsOf lost n, x.2 < n
  | 0 => ⟨by simp [lostsOf], by simp [lostsOf]⟩
  | n + 1 => by
    obtain ⟨h1, h2⟩ := lostsOf_nodup lost n
    rw [lostsOf_succ]
    cases h : lost.getD n none with
    | none =>
      rw [List.append_nil]
      exact ⟨h1, fun x hx => by have := h2 x hx; (first | lia | omega)⟩
    | some k =>
      refine ⟨List.nodup_append.mpr ⟨h1, by simp, fun x hx y hy e => ?_⟩, fun x hx => ?_⟩
      · have := h2 x hx
        rw [List.mem_singleton.mp hy] at e
        rw [e] at this
        have : (n : Int) < n := this
        (first | lia | omega)
      · rcases List.mem_append.mp hx with hx | hx
        · have := h2 x hx; (first | lia | omega)
        · rw [List.mem_singleton.mp hx]
          show (n : Int) < ((n + 1 : Nat) : Int)
          (first | lia | omega)

/-- `x` is `xs` in the order of the keys -/
noncomputable def SortOut {α : Type} (key : α → PI) (xs ys : List α) : Prop := ys.Perm xs ∧ ys.Pairwise fun x y => ltP (key x) (key y) = true

noncomputable def U1 (st : RS) (S : Int → List Int) : RefSt := refAll S ⟨(st.N, []), st.nf, []⟩ (rangeI 0 7)
noncomputable def U2 (st : RS) (S : Int → List Int) : RefSt := refAll S ⟨(U1 st S).P, (U1 st S).nf, []⟩ (rangeI 7 7)
noncomputable def U3 (st : RS) (S : Int → List Int) : (Int → Int) × List Int := doneAll S (outN (U2 st S).P.1 (U2 st S).P.2, []) (U2 st S).P.2
/-- all that the law's last part asks -/
structure LawF (g : List (List Int)) (lost won : List (Option Int)) (keys : List Int) (S : Int → List Int) (st : RS) : Prop where
  ll : lost.length = 7
  wl : won.length = 7
  log : ∀ ys, SortOut id (lostsOf lost 7) ys → st.log = ys
  hrs : st.hours = won
  r1 : (U1 st S).ref = othersOf lost 7
  r1ok : ∀ i, i < 7 → -2 ≤ (refAll S ⟨(st.N, []), st.nf, []⟩ (rangeI 0 i)).P.1 (0 + (i : Nat))
  r1l : (U1 st S).P.2.length ≤ 20
  r2 : (U2 st S).ref = wonsOf won 7
  r2ok : ∀ i, i < 7 → -2 ≤ (refAll S ⟨(U1 st S).P, (U1 st S).nf, []⟩ (rangeI 7 i)).P.1 (7 + (i : Nat))
  r2l : (U2 st S).P.2.length ≤ 20
  r2k : ∀ k ∈ (U2 st S).P.2, k ∈ keys
  ne : ∀ p ∈ othersOf lost 7, openOf g won p (gI g p).length ≠ []
  srt : ∀ ys, SortOut (keyOf g won) (othersOf lost 7) ys → (U2 st S).P.2 = ys
  dok : ∀ j k, (U2 st S).P.2[j]? = some k → (doneAll S (outN (U2 st S).P.1 (U2 st S).P.2, []) ((U2 st S).P.2.take j)).1 k = -1
  bz : decide ((U2 st S).nf < st.np + ((U2 st S).P.2.length : Int)) = !decide (othersOf lost 7 = [])
  fin : (decide ((U2 st S).nf + ((U2 st S).P.2.length : Int) < st.np + ((U2 st S).P.2.length : Int)) || !(U3 st S).2.isEmpty) = false
end text_P4
section text_LzA
set_option maxRecDepth 100000
set_option maxHeartbeats 1000000

section
variable {prog : Program} {w : World} {A : Around} {E : Value → Shared → Prop} {s : Shared} {env : Env} {R : Shared} {B B' : BM} {F : List (Addr × NM)} {μ μ' : Led} {a kS l : Addr} {K : Frag}

theorem sort_pick {α : Type} (key : α → PI) {xs : List α} {n : Nat} (hn : xs.length = n) {p : Array Nat} (P : PA n p) (S : SoN (fun i j => ltP ((xs.map key).getD i (0, 0)) ((xs.map key).getD j (0, 0))) p n) (d : α) : SortOut key xs (p.toList.map fun i => xs.getD i d) := by
  refine ⟨pick_perm P hn d, List.pairwise_map.mpr ((S.pair P).imp_of_mem fun {i j} hi hj h => ?_)⟩
  have hi' := P.mem_lt i hi
  have hj' := P.mem_lt j hj
  have e : ∀ k, k < n → (xs.map key).getD k (0, 0) = key (xs.getD k d) := fun k hk => by
    rw [List.getD_eq_getElem?_getD, List.getElem?_map, getD_some (d := d) (by (first | lia | omega) : k < xs.length)]; rfl
  have h' : ltP ((xs.map key).getD i (0, 0)) ((xs.map key).getD j (0, 0)) = true := h
  rw [e i hi', e j hj'] at h'
  exact h'

theorem lsort_p {xs : List PI} {P : PySem.Fin → Shared → Prop} (X : St R B F ((a, XL (PairB B) xs) :: μ) s) (nd : xs.Nodup) (h64 : xs.length < 64)
    (h : ∀ ys s', SortOut id xs ys → St R B F ((a, XL (PairB B) ys) :: μ) s' → P (.done (.ret .none)) s') : wpAny (model prog w) A (Builtin.«list.sort» ⟨[.ref a], []⟩) P E s := by
  obtain ⟨o, ⟨vs, rv, n, rfl⟩, ho, X⟩ := X.sharp
  have hvl := rv.length
  rw [list_sort_plain]
  refine wpAny_bind (listItems_at ho rfl ?_)
  obtain ⟨e1, ho1⟩ : ∃ e1, (s.heap.update a (Obj.mapSeq fun _ => (#[] : Array Value))).get? a = some (seqObj "list" #[] e1) := ⟨_, get?_update_seq ho fun _ => #[]⟩
  have X1 : St R B F ((a, ItP (seqObj "list" #[] e1)) :: μ) { s with heap := s.heap.update a (Obj.mapSeq fun _ => (#[] : Array Value)), toks := s.toks } := X.set1 .head (Heap.SameBut.update ..) ⟨_, ho1, rfl⟩
  refine wpAny_bind (listUpdate_at ho rfl ?_ (by rw [List.size_toArray, sizeLine_eq]; (first | lia | omega)) (Nat.zero_le _))
  refine wpAny_bind (seqEpoch_at ho1 rfl ?_)
  refine wpAny_bind (wpAny_newTuple ?_ (by show vs.length ≤ _; rw [sizeLine_eq]; (first | lia | omega)))
  refine wpAny_bind (wpAny_newList ?_ (Nat.zero_le _))
  refine wpAny_holding ?_
  have X2 := X1.grow (tk := s.toks) (h' := ((s.heap.update a (Obj.mapSeq fun _ => (#[] : Array Value))).push (seqObj "tuple" vs.toArray 0)).push (seqObj "list" #[] 0)) fun b o e => Heap.get?_push_of_some _ (Heap.get?_push_of_some _ e)
  show wpAny (model prog w) A _ P E { s with heap := ((s.heap.update a (Obj.mapSeq fun _ => (#[] : Array Value))).push (seqObj "tuple" vs.toArray 0)).push (seqObj "list" #[] 0) }
  generalize ({ s with heap := ((s.heap.update a (Obj.mapSeq fun _ => (#[] : Array Value))).push (seqObj "tuple" vs.toArray 0)).push (seqObj "list" #[] 0) } : Shared) = s2 at X2 ⊢
  dsimp only
  have tail : ∀ (st' : SortSt) (p : Array Nat), PA vs.length p → SoN (fun i j => ltP (xs.getD i (0, 0)) (xs.getD j (0, 0))) p vs.length → (arrOf st').map (·.2) = List.toArray (p.toList.map fun i => vs.getD i Value.none) → failedOf st' = none →
      wpAny (model prog w) A (do
        let sorted := (arrOf st').map (·.2)
        let touched := (← seqEpoch a) != e1
        Builtin.List.listUpdate (.ref a) fun _ => sorted
        if let some e := failedOf st' then rule "list.sort.comparison-raised"; throw e
        if touched then rule "list.sort.modified"; raiseError "ValueError" "list modified during sort"
        ret .none) P E s2 := by
    intro st' p PP SS hout hf
    dsimp only
    have so := sort_pick id (xs := xs) (by (first | lia | omega)) PP (by rw [List.map_id]; exact SS) (0, 0)
    have rl := pick_rel rv (0, 0) p.toList fun i hi => by have := PP.mem_lt i hi; (first | lia | omega)
    have hsz : (p.toList.map fun i => vs.getD i Value.none).length = vs.length := by rw [List.length_map, Array.length_toList, PP.sz]
    refine wpAny_bind (seqEpoch_at X2.at1 rfl ?_)
    refine wpAny_bind (upd_l X2 .head (P' := XL (PairB B) (p.toList.map fun i => xs.getD i (0, 0))) (fun e' => ?_) (Nat.zero_le _) (by rw [hout, List.size_toArray]; (first | lia | omega)) fun s' X' => ?_)
    · rw [hout]
      exact ⟨_, rl, _, rfl⟩
    rw [hf]
    simp only [bne_self_eq_false, Bool.false_eq_true, if_false]
    exact wpAny_pure (h _ s' so X')
  by_cases h2 : vs.toArray.size < 2
  · rw [if_pos h2, if_pos h2]
    rw [List.size_toArray] at h2
    refine wpAny_bind (wpAny_pure ?_)
    rw [StateT.run_pure]
    refine wpAny_bind (wpAny_pure ?_)
    refine tail (SortSt.mk' general' (vs.toArray.zip vs.toArray) #[] 7 none) (List.toArray (List.range vs.length)) (PA.range _) (fun i j hij hj => by (first | lia | omega)) ?_ rfl
    have e := kas_range (vs.toArray.zip vs.toArray)
    rw [show (vs.toArray.zip vs.toArray).size = vs.length by simp] at e
    exact kat_snds rfl e.symm
  · rw [if_neg h2, if_neg h2]
    rw [List.size_toArray] at h2
    refine wpAny_bind (kind_p X2 rv (by (first | lia | omega)) ?_)
    refine wpAny_bind (wpAny_mono (run_p (Q := fun st' s' => s' = s2 ∧ ∃ p, PA vs.length p ∧ SoN (fun i j => ltP (xs.getD i (0, 0)) (xs.getD j (0, 0))) p vs.length ∧ (arrOf st').map (·.2) = List.toArray (p.toList.map fun i => vs.getD i Value.none) ∧ failedOf st' = none) X2 rv rfl nd (by (first | lia | omega)) (by (first | lia | omega)) fun p st' a1 a2 a3 a4 => ⟨rfl, p, a1, a2, a3, a4⟩) ?_ fun _ _ e => e)
    rintro ⟨⟨⟩, st'⟩ s' ⟨rfl, p, a1, a2, a3, a4⟩
    exact tail st' p a1 a2 a3 a4

theorem ltail_k {α : Type} {rel : α → Value → Prop} {xs : List α} (key : α → PI) (d : α) {vs ks : List Value} {e e1 : Nat} {P : PySem.Fin → Shared → Prop} {st' : SortSt} {p : Array Nat} (X : St R B F ((kS, ItP (seqObj "list" ks.toArray e)) :: (a, ItP (seqObj "list" #[] e1)) :: μ) s)
    (rv : All2 rel xs vs) (h64 : xs.length < 64) (hk : ks.length = vs.length) (PP : PA vs.length p) (SS : SoN (fun i j => ltP ((xs.map key).getD i (0, 0)) ((xs.map key).getD j (0, 0))) p vs.length)
    (hout : (arrOf st').map (·.2) = List.toArray (p.toList.map fun i => vs.getD i Value.none)) (hf : failedOf st' = none)
    (h : ∀ ys s', SortOut key xs ys → St R B F ((a, XL rel ys) :: μ) s' → P (.done (.ret .none)) s') : wpAny (model prog w) A (ksk_tail a false e1 (.ref kS) st') P E s := by
  have hvl := rv.length
  have so := sort_pick key (xs := xs) (by (first | lia | omega)) PP SS d
  have rl := pick_rel rv d p.toList fun i hi => by have := PP.mem_lt i hi; (first | lia | omega)
  have hsz : (p.toList.map fun i => vs.getD i Value.none).length = vs.length := by rw [List.length_map, Array.length_toList, PP.sz]
  unfold ksk_tail
  try dsimp only
  refine wpAny_bind (upd_l X .head (P' := fun _ => True) (fun _ => trivial) (by rw [List.size_toArray]; (first | lia | omega)) (Nat.zero_le _) fun s' X' => ?_)
  have X2 := X'.drop1
  refine wpAny_bind (wpAny_letGo ?_)
  refine wpAny_bind (seqEpoch_at X2.at1 rfl ?_)
  refine wpAny_bind (upd_l X2 .head (P' := XL rel (p.toList.map fun i => xs.getD i d)) (fun e' => ?_) (Nat.zero_le _) (by show ((arrOf st').map (·.2)).size ≤ _; rw [hout, List.size_toArray]; (first | lia | omega)) fun s' X' => ?_)
  · show XL rel _ (seqObj "list" ((arrOf st').map (·.2)) e')
    rw [hout]
    exact ⟨_, rl, _, rfl⟩
  rw [hf]
  simp only [bne_self_eq_false, Bool.false_eq_true, if_false]
  exact wpAny_pure (h _ s' so X')

theorem lend_k {α : Type} {rel : α → Value → Prop} {xs : List α} (key : α → PI) (d : α) {vs ks : List Value} {e e1 : Nat} {P : PySem.Fin → Shared → Prop} (X : St R B F ((kS, ItP (seqObj "list" ks.toArray e)) :: (a, ItP (seqObj "list" #[] e1)) :: μ) s)
    (rv : All2 rel xs vs) (rk : All2 (PairB B) (xs.map key) ks) (nd : (xs.map key).Nodup) (h64 : xs.length < 64)
    (h : ∀ ys s', SortOut key xs ys → St R B F ((a, XL rel ys) :: μ) s' → P (.done (.ret .none)) s') : wpAny (model prog w) A (ksk_end a false vs.toArray e1 (.ref kS) ks.toArray) P E s := by
  have hvl := rv.length
  have hkl := rk.length
  rw [List.length_map] at hkl
  unfold ksk_end
  try dsimp only
  rw [if_neg (show ¬ (false = true) by decide), if_neg (show ¬ (false = true) by decide)]
  by_cases h2 : vs.toArray.size < 2
  · rw [if_pos h2, if_pos h2]
    rw [List.size_toArray] at h2
    refine wpAny_bind (wpAny_pure ?_)
    rw [StateT.run_pure]
    refine wpAny_bind (wpAny_pure ?_)
    try dsimp only
    refine ltail_k (st' := SortSt.mk' general' (ks.toArray.zip vs.toArray) #[] 7 none) (p := List.toArray (List.range vs.length)) key d X rv h64 (by (first | lia | omega)) (PA.range _) (fun i j hij hj => by (first | lia | omega)) ?_ rfl h
    have e := kas_range (ks.toArray.zip vs.toArray)
    rw [show (ks.toArray.zip vs.toArray).size = vs.length by simp; (first | lia | omega)] at e
    exact kat_snds (by (first | lia | omega)) e.symm
  · rw [if_neg h2, if_neg h2]
    rw [List.size_toArray] at h2
    refine wpAny_bind (kind_p X rk (by (first | lia | omega)) ?_)
    refine wpAny_bind (wpAny_mono (run_p (Q := fun st' s' => s' = s ∧ ∃ p, PA vs.length p ∧ SoN (fun i j => ltP ((xs.map key).getD i (0, 0)) ((xs.map key).getD j (0, 0))) p vs.length ∧ (arrOf st').map (·.2) = List.toArray (p.toList.map fun i => vs.getD i Value.none) ∧ failedOf st' = none) X rk (by (first | lia | omega)) nd (by (first | lia | omega)) (by (first | lia | omega)) fun p st' a1 a2 a3 a4 => ⟨rfl, p, a1, a2, a3, a4⟩) ?_ fun _ _ e => e)
    rintro ⟨⟨⟩, st'⟩ s' ⟨rfl, p, a1, a2, a3, a4⟩
    exact ltail_k key d X rv h64 (by (first | lia | omega)) a1 a2 a3 a4 h

theorem lsort_k {α : Type} {rel : α → Value → Prop} {xs : List α} (key : α → PI) (d : α) {f : Value} {P : PySem.Fin → Shared → Prop} (X : St R B F ((a, XL rel xs) :: μ) s) (nd : (xs.map key).Nodup) (h64 : xs.length < 64)
    (turn : ∀ (x : α) (v : Value) (p1 p2 : Addr × (Obj → Prop)) (B1 : BM) (s1 : Shared) (E1 : Value → Shared → Prop) (Q1 : Value → Shared → Prop), x ∈ xs → rel x v → Sub B B1 → St R B1 F (p1 :: p2 :: μ) s1 →
      (∀ B2 u s2, Sub B1 B2 → PairB B2 (key x) u → St R B2 F (p1 :: p2 :: μ) s2 → Q1 u s2) → wpAny (model prog w) A (call f [v]) Q1 E1 s1)
    (h : ∀ B' ys s', Sub B B' → SortOut key xs ys → St R B' F ((a, XL rel ys) :: μ) s' → P (.done (.ret .none)) s') : wpAny (model prog w) A (ksk_tree a f false) P E s := by
  obtain ⟨o, ⟨vs, rv, n, rfl⟩, ho, X⟩ := X.sharp
  have hvl := rv.length
  obtain ⟨e1, ho1⟩ : ∃ e1, (s.heap.update a (Obj.mapSeq fun _ => (#[] : Array Value))).get? a = some (seqObj "list" #[] e1) := ⟨_, get?_update_seq ho fun _ => #[]⟩
  have X1 : St R B F ((a, ItP (seqObj "list" #[] e1)) :: μ) { s with heap := s.heap.update a (Obj.mapSeq fun _ => (#[] : Array Value)), toks := s.toks } := X.set1 .head (Heap.SameBut.update ..) ⟨_, ho1, rfl⟩
  unfold ksk_tree
  refine wpAny_bind (listItems_at ho rfl ?_)
  refine wpAny_bind (listUpdate_at ho rfl ?_ (by rw [List.size_toArray, sizeLine_eq]; (first | lia | omega)) (Nat.zero_le _))
  refine wpAny_bind (seqEpoch_at ho1 rfl ?_)
  refine wpAny_bind (wpAny_newTuple ?_ (by show vs.length ≤ _; rw [sizeLine_eq]; (first | lia | omega)))
  refine wpAny_bind (wpAny_newList ?_ (Nat.zero_le _))
  refine wpAny_holding ?_
  have X2 := X1.grow (tk := s.toks) (h' := (s.heap.update a (Obj.mapSeq fun _ => (#[] : Array Value))).push (seqObj "tuple" vs.toArray 0)) fun b o e => Heap.get?_push_of_some _ e
  have X3 := X2.new (tk := s.toks) (o := seqObj "list" #[] 0) (P := ItP (seqObj "list" ([] : List Value).toArray 0)) rfl
  generalize hkS : ({ s with heap := (s.heap.update a (Obj.mapSeq fun _ => (#[] : Array Value))).push (seqObj "tuple" vs.toArray 0), toks := s.toks } : Shared).heap.objs.size = kS at X3
  unfold ksk_rest
  refine wpAny_bind (wpAny_rule ?_)
  first
    | rw [List.forIn_toArray]
    | (rw [← Array.forIn_toList]; simp only [List.toList_toArray])
    | rw [← Array.forIn_toList]
  refine wpAny_bind (ksk_fold (fun i s' => ∃ B1 ks e, Sub B B1 ∧ All2 (PairB B1) ((xs.take i).map key) ks ∧ St R B1 F ((kS, ItP (seqObj "list" ks.toArray e)) :: (a, ItP (seqObj "list" #[] e1)) :: μ) s') vs 0 _
    ⟨B, [], 0, Sub.refl _, .nil, X3⟩ ?step ?done)
  case step =>
    rintro j v s' hv ⟨B1, ks, e, hs1, rk, Y⟩
    rw [Nat.zero_add] at rk ⊢
    obtain ⟨x, hx, hr⟩ := rv.getV hv
    have hkl := rk.length
    rw [List.length_map, List.length_take] at hkl
    refine wpAny_bind (wpAny_attempt (turn x v _ _ B1 s' _ _ (List.mem_of_getElem? hx) hr hs1 Y fun B2 u s2 hs2 hu Z => ?_))
    try dsimp only
    refine wpAny_bind (upd_l Z .head (P' := fun o => ∃ e, o = seqObj "list" (ks ++ [u]).toArray e) (fun e' => ⟨e', by simp⟩) (by rw [List.size_toArray]; (first | lia | omega)) (by simp; (first | lia | omega)) fun s3 Z3 => ?_)
    obtain ⟨o, ⟨e3, rfl⟩, ho3, Z3⟩ := Z3.sharp
    refine wpAny_pure ⟨rfl, B2, ks ++ [u], e3, hs1.trans hs2, ?_, Z3⟩
    rw [List.take_add_one, hx, Option.toList_some, List.map_append]
    exact (rk.mono fun _ _ q => q.sub hs2).snoc hu
  case done =>
    rintro s' ⟨B1, ks, e, hs1, rk, Y⟩
    rw [Nat.zero_add, List.take_of_length_le (by (first | lia | omega))] at rk
    try dsimp only
    refine wpAny_bind (listItems_at Y.at1 rfl ?_)
    exact lend_k key d Y rv rk nd h64 fun ys s3 so Z => h _ ys s3 hs1 so Z

/-- `sorted` of a list: the copy that list.sort is given -/
theorem sorted_gen {α : Type} {rel : α → Value → Prop} {xs : List α} {kw : List (Str × Value)} {Q : Value → Shared → Prop} (X : St R B F μ s) (hl : LAt B μ l rel xs) (h64 : xs.length < 64) (ha1 : argsOk "sorted" ⟨[.ref l], kw⟩) (ha2 : ∀ x, argsOk "list.sort" ⟨[.ref x], kw⟩)
    (h : ∀ a s' P, St R B F ((a, XL rel xs) :: μ) s' → (∀ s'', Q (.ref a) s'' → P (.done (.ret .none)) s'') → wpAny (model prog w) A.in1.in1 (Builtin.«list.sort» ⟨[.ref a], kw⟩) P E s') :
    wpAny (model prog w) A (call (.builtin "sorted") [.ref l] kw) Q E s := by
  obtain ⟨vs, n, rv, ho⟩ := X.lst hl
  have hvl := rv.length
  refine call_function_entry_kw kind_sorted plain_sorted entry_sorted ha1 ?_
  unfold Builtin.«sorted»
  refine wpAny_bind (m := checkCount "sorted" 1 1 _) (wpAny_pure ?_)
  refine wpAny_bind (collect_list (isList_of ho) ?_ (by rw [sizeLine_eq]; (first | lia | omega)))
  refine wpAny_bind (wpAny_newList ?_ (by rw [sizeLine_eq]; (first | lia | omega)))
  have keep : ∀ b o, s.heap.get? b = some o → ((s.heap.push (seqObj "list" #[] 0)).update s.heap.objs.size (Obj.mapSeq (· ++ vs.toArray))).get? b = some o := fun b o q => by
    have hlt : b < s.heap.objs.size := Heap.lt_size q
    rw [Heap.get?_update_ne _ _ _ _ (Nat.ne_of_lt hlt), Heap.get?_push_ne _ _ _ (Nat.ne_of_lt hlt)]
    exact q
  have Y := (X.grow (tk := s.toks) keep).new (tk := s.toks) (o := seqObj "list" vs.toArray 0) (P := XL rel xs) ⟨vs, rv, 0, rfl⟩
  obtain ⟨oD, hoD, zD⟩ := Y.led _ (.head _)
  obtain ⟨vD, rD, nD, rfl⟩ := zD
  refine wpAny_bind (wpAny_holding (wpAny_call_entry_kw slot_list_sort ⟨_, hoD, rfl⟩ entry_list_sort ?_ (ha2 _)))
  exact h _ _ _ Y fun s'' hq => ⟨_, rfl, wpAny_pure ⟨_, rfl, hq⟩⟩

theorem sorted_p {xs : List PI} {Q : Value → Shared → Prop} (X : St R B F μ s) (hl : LAt B μ l (PairB B) xs) (nd : xs.Nodup) (h64 : xs.length < 64)
    (h : ∀ a ys s', SortOut id xs ys → St R B F ((a, XL (PairB B) ys) :: μ) s' → Q (.ref a) s') : wpAny (model prog w) A (call (.builtin "sorted") [.ref l]) Q E s :=
  sorted_gen X hl h64 (args_sorted1 _) (fun _ => args_list_sort _) fun a s' P Y hP => lsort_p Y nd h64 fun ys s'' so Z => hP _ (h a ys s'' so Z)

theorem sorted_k {α : Type} {rel : α → Value → Prop} {xs : List α} (key : α → PI) (d : α) {q : Addr} {Q : Value → Shared → Prop} (X : St R B F μ s) (hl : LAt B μ l rel xs) (nd : (xs.map key).Nodup) (h64 : xs.length < 64)
    (turn : ∀ (x : α) (v : Value) (p1 p2 : Addr × (Obj → Prop)) (B1 : BM) (s1 : Shared) (E1 : Value → Shared → Prop) (Q1 : Value → Shared → Prop), x ∈ xs → rel x v → Sub B B1 → St R B1 F (p1 :: p2 :: μ) s1 →
      (∀ B2 u s2, Sub B1 B2 → PairB B2 (key x) u → St R B2 F (p1 :: p2 :: μ) s2 → Q1 u s2) → wpAny (model prog w) A.in1.in1 (call (.ref q) [v]) Q1 E1 s1)
    (h : ∀ B' a ys s', Sub B B' → SortOut key xs ys → St R B' F ((a, XL rel ys) :: μ) s' → Q (.ref a) s') : wpAny (model prog w) A (call (.builtin "sorted") [.ref l] [(Str.ofString "key", .ref q)]) Q E s :=
  sorted_gen X hl h64 (ksk_s1 _ _) (fun _ => ksk_l1 _ _) fun a s' P Y hP => by
    rw [ksk_t1]
    exact lsort_k key d Y nd h64 (fun x v p1 p2 B1 s1 E1 Q1 hx hv hs Z k => turn x v p1 p2 B1 s1 E1 Q1 hx hv hs Z k) fun B' ys s'' hs so Z => hP _ (h B' a ys s'' hs so Z)
end
end text_LzA
section text_LzB
set_option maxRecDepth 100000
set_option maxHeartbeats 1000000

section
variable {prog : Program} {w : World} {A : Around} {E : Value → Shared → Prop} {s : Shared} {env : Env} {R : Shared} {B B' : BM} {F : List (Addr × NM)} {μ μ' : Led} {K : Frag}

/-- a new object is frozen -/
theorem St.adopt {s' : Shared} {n : Nat} {c : Addr} {o : Obj} (X : St R B F μ s) (hn : s.heap.objs.size = n) (Y : St R B F μ s') (hc : n ≤ c) (ho : s'.heap.get? c = some o) : ∃ B', Sub B B' ∧ B' c = some o ∧ St R B' F μ s' := by
  have f1 : B c = none := by
    cases q : B c with
    | none => rfl
    | some o => exact absurd hc (Nat.not_le.mpr (hn ▸ Heap.lt_size (X.keep _ _ q)))
  have f2 : ∀ p ∈ μ, p.1 ≠ c := fun p hp e => by
    obtain ⟨o, ho, _⟩ := X.led p hp
    have := Heap.lt_size ho
    rw [e, hn] at this; exact absurd hc (Nat.not_le.mpr this)
  have f3 : ∀ p ∈ F, p.1 ≠ c := fun p hp e => by
    have := (X.fr p hp).lt
    rw [e, hn] at this; exact absurd hc (Nat.not_le.mpr this)
  refine ⟨fun b => if b = c then some o else B b, fun b o' e => ?_, if_pos rfl, ?_⟩
  · have : b ≠ c := fun q => by rw [q, f1] at e; cases e
    show (if b = c then some o else B b) = some o'
    rw [if_neg this]; exact e
  · refine ⟨Y.fr, fun p hp => ?_, Y.fm, Y.fd, fun b o' e => ?_, Y.led, fun p hp => ?_, Y.md, Y.gens, Y.os, Y.drawn⟩
    · show (if p.1 = c then some o else B p.1) = none
      rw [if_neg (f3 p hp)]; exact Y.fb p hp
    · have e' : (if b = c then some o else B b) = some o' := e
      by_cases q : b = c
      · rw [if_pos q] at e'; cases e'; rw [q]; exact ho
      · rw [if_neg q] at e'; exact Y.keep b o' e'
    · show (if p.1 = c then some o else B p.1) = none
      rw [if_neg (f2 p hp)]; exact Y.mb p hp

noncomputable def CodeB (B : BM) (c : Addr) (qual : Str) : Prop := ∃ oc vs t, B c = some oc ∧ oc.data = .fields vs ∧ vs[1]? = some (.str qual t)
theorem CodeB.sub {c : Addr} {qual : Str} (h : CodeB B c qual) (hs : Sub B B') : CodeB B' c qual := let ⟨oc, vs, t, a, b, d⟩ := h; ⟨oc, vs, t, hs _ _ a, b, d⟩
noncomputable def TabP : Obj → Prop := fun o => ∃ ps, o = tabObj ps

theorem lam_x {params : Arguments} {body : Expr} {scope : Scope} {pos : Pos} {clos : List (Str × Addr)} {c P : Addr} {Q : Value → Shared → Prop} (hB : Base K B) (X : St R B F ((P, ItP (tabObj #[])) :: μ) s) (hdef : defaultsOf params env = ([], [])) (hcl : closureFor scope env = pure clos)
    (hge : env.globals = mainGlobals) (hcode : env.code = .ref c) (hC : codeHdIn K c P = true)
    (h : ∀ B' q c' ctv pm s', Sub B B' → Base K B' → B' q = some (kla_obj "<lambda>" (env.qual ++ "<lambda>") params body scope clos pm c' ctv) → CodeB B' c' (env.qual ++ "<lambda>") → St R B' F ((P, TabP) :: μ) s' → Q (.ref q) s') :
    wpAny (model prog w) A (eval (.Lambda params body scope pos) env) Q E s := by
  obtain ⟨H, p, l, me, mg, mb, a, b, T⟩ := hB.top
  have hk' : ∀ y o, H.get? y = some o → s.heap.get? y = some o := fun y o e => X.keep y o (a y o e)
  have hP := X.at1
  have hPB : B P = none := X.mb _ (.head _)
  have hPH : ∀ y o, H.get? y = some o → y ≠ P := fun y o e q => by have := a y o e; rw [q, hPB] at this; cases this
  obtain ⟨bm, ob, b1, b2, b3, b4, b5, b6⟩ := T.bmain
  have hbG : bm ≠ mainGlobals := fun q => by
    obtain ⟨o, es, ep, e, hd, _⟩ := T.g
    rw [q, e] at b3; cases b3; rw [hd] at b6; cases b6
  have hgP : mainGlobals ≠ P := by
    obtain ⟨o, es, ep, e, hd, _⟩ := T.g
    exact hPH _ _ e
  refine kla_eval hdef (kla_makeFunction (mg := mg) hcl hge (T.g.keeps hk') hcode (codeHd_of_K (hB.inH X) hC) hP (by kn_triples) (by kn_among) hgP ⟨bm, ob, b1, b2, hbG, hPH _ _ b3, hk' _ _ b3, b4, b5, b6⟩ fun c' ctv h' tk hx hge' hlt hrec htb => ?_)
  obtain ⟨c₂, oc, vs, t, e2, hoc, hd, hv⟩ := hrec
  cases e2
  have X1 : St R B F ((P, TabP) :: μ) { s with heap := h', toks := tk } := X.ext1 (fun b o hb e => hx b o hb e) ⟨_, htb, _, rfl⟩
  obtain ⟨B1, hs1, hc1, X2⟩ := (X.weak1 (P' := TabP) fun o e => ⟨_, e⟩).adopt rfl X1 hge' hoc
  have Z : ∀ {o : Obj} (hf : o.isFreed = false), ∃ B', Sub B1 B' ∧ B' h'.objs.size = some o ∧ St R B' F ((P, TabP) :: μ) { s with heap := h'.push o, toks := tk } := fun {o} hf =>
    X2.adopt (s' := { s with heap := h'.push o, toks := tk }) rfl (X2.grow (h' := h'.push o) (tk := tk) fun b o e => Heap.get?_push_of_some _ e) (Nat.le_refl _) (Heap.get?_push_size _ hf)
  obtain ⟨B2, hs2, hq, X3⟩ := Z (o := kla_obj "<lambda>" (env.qual ++ "<lambda>") params body scope clos ((mg "__name__").getD .none) c' ctv) rfl
  exact h B2 _ c' ctv _ _ (hs1.trans hs2) ((hB.sub hs1).sub hs2) hq ⟨oc, vs, t, hs2 _ _ hc1, hd, hv⟩ X3

theorem lam_call {n : Nat} {q c' : Addr} {name qual : Str} {params : Arguments} {body : Expr} {scope : Scope} {cl : List (Str × Addr)} {pm ctv : Value} {args : List Value} {binds : List (Str × Value)} {Q : Value → Shared → Prop} (hB : Base K B) (hA : Cx A (n + 1)) (X : St R B F μ s)
    (hq : B q = some (kla_obj name qual params body scope cl pm c' ctv)) (hc : CodeB B c' qual) (hbind : bindArgs (kla_fn name qual params body scope cl pm (.ref c') ctv) ⟨args, []⟩ = pure binds) (hloc : ∀ y ∈ binds, scope.names.lookup y.1 = some .local)
    (h : ∀ L A' s₁, Cx A' n → A'.frames = A.frames.map (envX qual scope L q (.ref c') cl :: ·) → St R B ((L, fun y => binds.reverse.lookup y) :: F) μ s₁ →
      wpAny (model prog w) A' (eval body (envX qual scope L q (.ref c') cl)) Q (fun e s' => wpAny (model prog w) A' (leaving (envX qual scope L q (.ref c') cl) e) (fun _ s'' => E e s'') (fun e' s'' => E e' s'') s') s₁)
    (hco : scope.isCoroutine = false := by rfl) (hgen : scope.isGenerator = false := by rfl) (hk : scope.kind = .function := by rfl) (hcell : ∀ x ∈ scope.names, x.2 ≠ .cell := by decide) :
    wpAny (model prog w) A (call (.ref q) args) Q E s := by
  obtain ⟨H, p, l, me, mg, mb, a, b, T⟩ := hB.top
  have hk' : ∀ y o, H.get? y = some o → s.heap.get? y = some o := fun y o e => X.keep y o (a y o e)
  obtain ⟨oc, vs, t, hoc, hd, hv⟩ := hc
  refine wpAny_call (kla_callFunE hA.room (X.keep _ _ hq) rfl hco hgen rfl ⟨_, oc, vs, t, rfl, X.keep _ _ hoc, hd, hv⟩ ?_)
  rw [hbind]
  refine wpAny_pure (wpAny_newFunctionEnv hcell hloc (fun h₁ hns hsb => ⟨(T.nolimit.keeps hk').fresh _ hsb, ?_⟩) hk)
  show codeAny _ _ (.expr body (envX qual scope s.heap.objs.size q (.ref c') cl)) _ _
  have hk₁ : ∀ b o, s.heap.get? b = some o → h₁.get? b = some o := fun b o e => hsb.extBut b o (Nat.ne_of_lt (Heap.lt_size e)) (Heap.get?_push_of_some _ e)
  exact kla_codeExpr (h _ _ _ (hA.deeper _) rfl (X.enter hns hk₁))
end
end text_LzB
section text_LzC
set_option maxRecDepth 100000
set_option maxHeartbeats 1000000

section
variable {prog : Program} {w : World} {A : Around} {E : Value → Shared → Prop} {s : Shared} {env : Env} {R : Shared} {B B' : BM} {F : List (Addr × NM)} {μ μ' : Led} {K : Frag} {α : Type} {rel : α → Value → Prop}

theorem assign_lst2 {elts : List Expr} {x1 : Nat} {pos : Pos} {l : Addr} {v0 v1 : Value} {c : Nat} {Q : Unit → Shared → Prop} (hA : A.handled = none) (X : St R B F μ s) (hl : B l = some (listOf (List.toArray [v0, v1]) c))
    (h : ∀ s', St R B F μ s' → wpAny (model prog w) A (assignInOrder ((assignEach elts env).map (·.2)) [v0, v1]) Q E s') (hn : (assignEach elts env).length = 2) (hstar : (assignEach elts env).findIdx? (·.1) = none) :
    wpAny (model prog w) A (assign (.Tuple elts x1 pos) env (.ref l)) Q E s := by
  rw [arm_assign_Tuple]
  refine wpAny_bind (wpAny_standAt ?_)
  unfold unpack
  rw [hn, hstar]
  refine wpAny_bind (wpAny_holding ?_)
  unfold unpackItems
  refine wpAny_bind ?_
  unfold notIterableAtAll
  have hT : s.TypeIs (.ref l) "list" := ⟨_, X.keep _ _ hl, rfl⟩
  refine wpAny_bind (wpAny_specialOf hT PySem.F.slot_list_iter.lookup ?_)
  refine wpAny_pure ?_
  simp only [Bool.false_eq_true, if_false]
  refine wpAny_bind (wpAny_holding (it_list hA X hl fun I o s1 T X1 => ?_))
  refine wpAny_bind (wpAny_holding ?_)
  show wpAny _ _ (pyNext (.ref I) >>= _) _ E s1
  refine wpAny_bind (next_item X1 T (by simp) fun v o1 s2 hv T1 X2 => ?_)
  have e0 : v = v0 := by simpa using hv.symm
  subst e0
  try dsimp only
  refine wpAny_bind (wpAny_holding ?_)
  show wpAny _ _ (pyNext (.ref I) >>= _) _ E s2
  refine wpAny_bind (next_item X2 T1 (by simp) fun v o2 s3 hv T2 X3 => ?_)
  have e1 : v = v1 := by simpa using hv.symm
  subst e1
  try dsimp only
  refine wpAny_bind (wpAny_holding ?_)
  show wpAny _ _ (pure []) _ E s3
  refine wpAny_pure (wpAny_pure (wpAny_pure ?_))
  try dsimp only
  rw [if_neg (by simp)]
  refine wpAny_bind (wpAny_holding (next_done X3 T2 fun s4 X4 => ?_))
  simp only [Option.isSome_none, Bool.false_eq_true, if_false]
  exact wpAny_pure (h _ X4)

theorem list_tup {xs : List α} {vs : List Value} {t : Addr} {Q : Value → Shared → Prop} (X : St R B F μ s) (ht : TupB B t vs) (hv : All2 rel xs vs) (hz : xs.length ≤ 1000) (h : ∀ a s', St R B F ((a, XL rel xs) :: μ) s' → Q (.ref a) s') :
    wpAny (model prog w) A (call (.type "list") [.ref t]) Q E s := by
  obtain ⟨n, e⟩ := ht
  have hl := hv.length
  refine call_list_seq t (.inr rfl) (X.keep _ _ e) rfl rfl (fun h' c' hk hn => ?_) (by rw [sizeLine_eq, List.size_toArray]; (first | lia | omega))
  have Y := X.grow (h' := h') (tk := s.toks) hk
  refine h _ _ ?_
  obtain ⟨f1, f2, f3⟩ := X.fresh
  exact ⟨Y.fr, Y.fb, fun p hp q => by
    rcases List.mem_cons.mp q with e | e
    · have e' : p.1 = s.heap.objs.size := e
      exact f3 (e' ▸ List.mem_map_of_mem hp)
    · exact Y.fm p hp e, Y.fd, Y.keep, fun p hp => by
    rcases List.mem_cons.mp hp with rfl | e
    · exact ⟨_, hn, vs, hv, c', rfl⟩
    · exact Y.led p e, fun p hp => by
    rcases List.mem_cons.mp hp with rfl | e
    · exact f1
    · exact Y.mb p e, by
    simp only [List.map_cons, List.nodup_cons]
    exact ⟨f2, Y.md⟩, Y.gens, Y.os, Y.drawn⟩

/-- a free name -/
theorem name_f {x : Str} {pos : Pos} {v : Value} {c : Addr} {Q : Value → Shared → Prop} (hl : env.kindOf x = some .free) (X : St R B F μ s) (hc : env.cells.lookup x = some c) (hv : (c, IsC (some v)) ∈ μ) (h : Q v s)
    (hk : env.scope.kind = .function := by rfl) (hn : (x == ("__classdict__" : Str)) = false := by decide) (hd : (x == ("__debug__" : Str)) = false := by decide) :
    wpAny (model prog w) A (eval (.Name x pos) env) Q E s :=
  wpAny_Name (wpAny_loadName_free hk hl hc (X.get hv) h hn) hd
end
end text_LzC
section text_P5
set_option maxRecDepth 100000

theorem bit_flip : ∀ n : Fin 128, ∀ q : Fin 7, (0 ≤ Builtin.bitXor ((n.val : Nat) : Int) (1 * 2 ^ q.val) ∧ Builtin.bitXor ((n.val : Nat) : Int) (1 * 2 ^ q.val) < 128) ∧
    ∀ r : Fin 7, (Builtin.bitAnd (Builtin.bitXor ((n.val : Nat) : Int) (1 * 2 ^ q.val)) (1 * 2 ^ r.val) != 0) = if r = q then !(Builtin.bitAnd ((n.val : Nat) : Int) (1 * 2 ^ r.val) != 0) else (Builtin.bitAnd ((n.val : Nat) : Int) (1 * 2 ^ r.val) != 0) := by decide +kernel
theorem bit_zero : ∀ r : Fin 7, (Builtin.bitAnd 0 (1 * 2 ^ r.val) != 0) = false := by decide +kernel

structure BkT (bk : List Int) (t : List (List Bool)) : Prop where
  l : bk.length = 7
  b : Board t
  v : ∀ p, p < 7 → (0 ≤ bk.getD p 0 ∧ bk.getD p 0 < 128) ∧ ∀ q, q < 7 → (Builtin.bitAnd (bk.getD p 0) (1 * 2 ^ q) != 0) = (t.getD p []).getD q false

theorem getD_set_self {α : Type} {xs : List α} {i : Nat} {x d : α} (h : i < xs.length) : (xs.set i x).getD i d = x := by
  rw [List.getD_eq_getElem?_getD, List.getElem?_set_self h]; rfl
theorem getD_set_ne {α : Type} {xs : List α} {i j : Nat} {x d : α} (h : i ≠ j) : (xs.set i x).getD j d = xs.getD j d := by
  rw [List.getD_eq_getElem?_getD, List.getElem?_set_ne h, ← List.getD_eq_getElem?_getD]

theorem BkT.step {bk : List Int} {t : List (List Bool)} {x : PI} (I : BkT bk t) (hx : 0 ≤ x.1 ∧ x.1 < 7 ∧ 0 ≤ x.2 ∧ x.2 < 7) : BkT (bookStep bk x) (tog t x) := by
  obtain ⟨h1, h2, h3, h4⟩ := hx
  obtain ⟨i, hi⟩ : ∃ i : Nat, x.1 = i := ⟨x.1.toNat, by (first | lia | omega)⟩
  obtain ⟨j, hj⟩ : ∃ j : Nat, x.2 = j := ⟨x.2.toNat, by (first | lia | omega)⟩
  have hi7 : i < 7 := by (first | lia | omega)
  have hj7 : j < 7 := by (first | lia | omega)
  refine ⟨by unfold bookStep; simp [I.l], tog_ok I.b x, fun p hp => ?_⟩
  unfold bookStep tog
  rw [hi, hj, Int.toNat_natCast, Int.toNat_natCast]
  by_cases e : i = p
  · subst e
    rw [getD_set_self (by rw [I.l]; exact hi7), getD_set_self (by rw [I.b.1]; exact hi7)]
    obtain ⟨⟨v1, v2⟩, v3⟩ := I.v i hi7
    obtain ⟨n, hn⟩ : ∃ n : Nat, bk.getD i 0 = n := ⟨(bk.getD i 0).toNat, by (first | lia | omega)⟩
    rw [hn] at v1 v2 v3 ⊢
    obtain ⟨b1, b2⟩ := bit_flip ⟨n, by (first | lia | omega)⟩ ⟨j, hj7⟩
    refine ⟨b1, fun q hq => ?_⟩
    have b3 := b2 ⟨q, hq⟩
    have v4 := v3 q hq
    show (Builtin.bitAnd (Builtin.bitXor (n : Int) (1 * 2 ^ j)) (1 * 2 ^ q) != 0) = _
    have b3' : (Builtin.bitAnd (Builtin.bitXor (n : Int) (1 * 2 ^ j)) (1 * 2 ^ q) != 0) = if (⟨q, hq⟩ : Fin 7) = ⟨j, hj7⟩ then !(Builtin.bitAnd (n : Int) (1 * 2 ^ q) != 0) else (Builtin.bitAnd (n : Int) (1 * 2 ^ q) != 0) := b3
    rw [b3', v4]
    by_cases eq : j = q
    · subst eq
      rw [if_pos rfl, getD_set_self (by rw [I.b.2 i hi7]; exact hj7)]
    · rw [if_neg (fun h => eq (by injection h with h; exact h.symm)), getD_set_ne eq]
  · rw [getD_set_ne e, getD_set_ne e]
    exact I.v p hp
theorem BkT.start : BkT (List.replicate 7 0) board0 := by
  refine ⟨rfl, board0_ok, fun p hp => ?_⟩
  have e : (List.replicate 7 (0 : Int)).getD p 0 = 0 := by
    rw [List.getD_eq_getElem?_getD, List.getElem?_replicate, if_pos hp]; rfl
  rw [e]
  refine ⟨by decide, fun q hq => ?_⟩
  rw [show (Builtin.bitAnd 0 (1 * 2 ^ q) != 0) = false from bit_zero ⟨q, hq⟩]
  unfold board0
  have e2 : (List.replicate 7 (List.replicate 7 false)).getD p [] = List.replicate 7 false := by
    rw [List.getD_eq_getElem?_getD, List.getElem?_replicate, if_pos hp]; rfl
  rw [e2, List.getD_eq_getElem?_getD, List.getElem?_replicate, if_pos hq]; rfl
theorem BkT.all : ∀ (ps : List PI) (bk : List Int) (t : List (List Bool)), BkT bk t → (∀ x ∈ ps, 0 ≤ x.1 ∧ x.1 < 7 ∧ 0 ≤ x.2 ∧ x.2 < 7) → BkT (ps.foldl bookStep bk) (ps.foldl tog t)
  | [], bk, t, I, _ => I
  | x :: ps, bk, t, I, h => BkT.all ps _ _ (I.step (h x List.mem_cons_self)) fun y hy => h y (List.mem_cons_of_mem _ hy)
theorem moves_goals {ps : List PI} (h : ∀ x ∈ ps, 0 ≤ x.1 ∧ x.1 < 7 ∧ 0 ≤ x.2 ∧ x.2 < 7) : movesOf (boardOf ps) = goalsOf (bookOf ps) := by
  have I : BkT (bookOf ps) (boardOf ps) := BkT.all ps _ _ BkT.start h
  unfold movesOf goalsOf
  refine List.map_congr_left fun p hp => ?_
  rw [List.mem_range] at hp
  unfold rowOfBoard goalRow
  congr 1
  refine List.filter_congr fun q hq => ?_
  rw [List.mem_range] at hq
  exact ((I.v p hp).2 q hq).symm

theorem pairs_ok (ns : List Int) : ∀ x ∈ pairsOf ns, 0 ≤ x.1 ∧ x.1 < 7 ∧ 0 ≤ x.2 ∧ x.2 < 7 := by
  intro x hx
  unfold pairsOf at hx
  rcases List.mem_append.mp hx with hx | hx
  · have : ∀ y ∈ pairs0, 0 ≤ y.1 ∧ y.1 < 7 ∧ 0 ≤ y.2 ∧ y.2 < 7 := by decide
    exact this x hx
  · obtain ⟨y, _, rfl⟩ := List.mem_map.mp hx
    unfold pairOfX
    have h1 := Int.fmod_nonneg_of_pos (a := y.fdiv 7) (b := 7) (by decide)
    have h2 := Int.fmod_lt_of_pos (y.fdiv 7) (b := 7) (by decide)
    have h3 := Int.fmod_nonneg_of_pos (a := y) (b := 7) (by decide)
    have h4 := Int.fmod_lt_of_pos y (b := 7) (by decide)
    exact ⟨h1, h2, h3, h4⟩
theorem pairs_len (ns : List Int) : (pairsOf ns).length ≤ 200 := by
  unfold pairsOf rowOf
  have : pairs0.length = 9 := rfl
  simp only [List.length_append, List.length_map, List.length_take]
  (first | lia | omega)

theorem gI_goals {bk : List Int} {p : Int} (h0 : 0 ≤ p) (h7 : p < 7) : gI (goalsOf bk) p = goalRow bk p.toNat 7 := by
  unfold gI goalsOf
  rw [List.getD_eq_getElem?_getD, List.getElem?_map, List.getElem?_range (by (first | lia | omega))]; rfl
theorem game_ok (bk : List Int) (ns : List Int) : Game (goalsOf bk) (timesOf ns) := by
  refine ⟨by unfold goalsOf; simp, fun p h0 h7 q hq => ?_, fun p h0 h7 => ?_, by unfold timesOf; simp, fun p h0 h7 => ?_⟩
  · rw [gI_goals h0 h7] at hq
    unfold goalRow at hq
    obtain ⟨i, hi, rfl⟩ := List.mem_map.mp hq
    rw [List.mem_filter, List.mem_range] at hi
    exact ⟨Int.natCast_nonneg _, by have := hi.1; show (i : Int) < 7; (first | lia | omega)⟩
  · rw [gI_goals h0 h7]
    unfold goalRow
    rw [List.pairwise_map]
    exact (List.pairwise_lt_range.filter _).imp fun h => Int.ofNat_lt.mpr h
  · unfold tI timesOf
    rw [List.getD_eq_getElem?_getD, List.getElem?_map, List.getElem?_range (by (first | lia | omega))]
    show 1 ≤ timeAt _ _ ∧ timeAt _ _ ≤ 3
    unfold timeAt
    have h1 := Int.fmod_nonneg_of_pos (a := (p.toNat : Int) + (rowOf ns).getD p.toNat 0) (b := 3) (by decide)
    have h2 := Int.fmod_lt_of_pos ((p.toNat : Int) + (rowOf ns).getD p.toNat 0) (b := 3) (by decide)
    (first | lia | omega)
end text_P5
section text_P6
set_option maxRecDepth 100000

section
variable {g : List (List Int)} {ts : List Int} {st : RS}

theorem log_mem (I : RInv g ts st) (hh : st.heap = []) (x : PI) : x ∈ st.log ↔ 0 ≤ x.2 ∧ x.2 < 7 ∧ cn g (wOf st.hours) x.2 = 0 ∧ x.1 = lhOf g ts (wOf st.hours) x.2 := by
  have ent := I.ent
  have all := I.all
  rw [hh, List.append_nil] at ent all
  refine ⟨fun h => ent x h, fun ⟨h0, h7, hc, e⟩ => ?_⟩
  obtain ⟨y, hy, ey⟩ := List.mem_map.mp (all x.2 h0 h7 hc)
  obtain ⟨_, _, _, e2⟩ := ent y hy
  have : y = x := Prod.ext (by rw [e2, e, ey]) ey
  exact this ▸ hy
theorem W_none (I : RInv g ts st) (hh : st.heap = []) (G : Game g ts) {q : Int} (h0 : 0 ≤ q) (h7 : q < 7) (hw : wOf st.hours q = none) : ∀ r ∈ gI g q, cn g (wOf st.hours) r ≠ 0 := fun r hr hc => by
  have h := G.gr q h0 h7 r hr
  exact I.wn q h0 h7 hw (lhOf g ts (wOf st.hours) r, r) ((log_mem I hh _).mpr ⟨h.1, h.2, hc, rfl⟩) hr
theorem W_some (I : RInv g ts st) (hh : st.heap = []) (G : Game g ts) {q v : Int} (h0 : 0 ≤ q) (h7 : q < 7) (hw : wOf st.hours q = some v) :
    ∃ r ∈ gI g q, (0 ≤ r ∧ r < 7) ∧ cn g (wOf st.hours) r = 0 ∧ v = lhOf g ts (wOf st.hours) r + tI ts q ∧ ∀ r' ∈ gI g q, cn g (wOf st.hours) r' = 0 → lhOf g ts (wOf st.hours) r ≤ lhOf g ts (wOf st.hours) r' := by
  obtain ⟨x, hx, hg, hv, hm⟩ := I.ws q h0 h7 v hw
  obtain ⟨x0, x7, xc, xe⟩ := (log_mem I hh x).mp hx
  refine ⟨x.2, hg, ⟨x0, x7⟩, xc, by rw [hv, xe], fun r' hr' hc' => ?_⟩
  have h := G.gr q h0 h7 r' hr'
  have := hm (lhOf g ts (wOf st.hours) r', r') ((log_mem I hh _).mpr ⟨h.1, h.2, hc', rfl⟩) hr'
  rw [xe] at this; exact this
theorem lh_some {W : Int → Option Int} {p : Int} (hc : cn g W p = 0) (hn : gI g p ≠ []) :
    ∃ r ∈ gI g p, ∃ v, W r = some v ∧ lhOf g ts W p = v + tI ts p ∧ ∀ r' ∈ gI g p, ∃ v', W r' = some v' ∧ v' ≤ v := by
  have hall := cn_zero.mp hc
  obtain ⟨m, h1, h2, h3⟩ := maxI_spec (xs := (gI g p).map fun r => (W r).getD 0) (by simpa using hn)
  obtain ⟨r, hr, er⟩ := List.mem_map.mp h2
  have get : ∀ r' ∈ gI g p, W r' = some ((W r').getD 0) := fun r' hr' => by
    have := hall r' hr'
    cases h : W r' with
    | none => rw [h] at this; cases this
    | some v => rfl
  refine ⟨r, hr, m, by rw [get r hr, er], ?_, fun r' hr' => ⟨_, get r' hr', h3 _ (List.mem_map_of_mem (f := fun r => (W r).getD 0) hr')⟩⟩
  unfold lhOf
  rw [if_neg hn, h1]; rfl
theorem lh_nil {W : Int → Option Int} {p : Int} (hn : gI g p = []) : lhOf g ts W p = 0 := by unfold lhOf; rw [if_pos hn]

theorem lh_nonneg (I : RInv g ts st) (hh : st.heap = []) (G : Game g ts) {p : Int} (h0 : 0 ≤ p) (h7 : p < 7) (hc : cn g (wOf st.hours) p = 0) : 0 ≤ lhOf g ts (wOf st.hours) p := by
  have srt := I.srt
  have hm := (log_mem I hh (lhOf g ts (wOf st.hours) p, p)).mpr ⟨h0, h7, hc, rfl⟩
  have mem := log_mem I hh
  cases hl : st.log with
  | nil => rw [hl] at hm; simp at hm
  | cons x0 rest =>
    rw [hl] at srt hm mem
    have hle : ∀ y ∈ x0 :: rest, x0.1 ≤ y.1 := fun y hy => by
      rcases List.mem_cons.mp hy with rfl | hy
      · exact Int.le_refl _
      · have := (List.pairwise_cons.mp srt).1 y hy
        rw [ltP_iff] at this
        (first | lia | omega)
    obtain ⟨x00, x07, xc, xe⟩ := (mem x0).mp List.mem_cons_self
    have h1 := hle _ hm
    have h2 : 0 ≤ x0.1 := by
      by_cases hn : gI g x0.2 = []
      · rw [xe, lh_nil hn]; exact Int.le_refl _
      · obtain ⟨r, hr, v, hw, e, _⟩ := lh_some (ts := ts) xc hn
        have hr7 := G.gr x0.2 x00 x07 r hr
        obtain ⟨r2, hr2, h27, hc2, e2, _⟩ := W_some I hh G hr7.1 hr7.2 hw
        have h3 := hle _ ((mem (lhOf g ts (wOf st.hours) r2, r2)).mpr ⟨h27.1, h27.2, hc2, rfl⟩)
        have h3 : x0.1 ≤ lhOf g ts (wOf st.hours) r2 := h3
        have t1 := (G.tr x0.2 x00 x07).1
        have t2 := (G.tr r hr7.1 hr7.2).1
        (first | lia | omega)
    exact Int.le_trans h2 h1

theorem disj (I : RInv g ts st) (hh : st.heap = []) (G : Game g ts) : ∀ (n : Nat) (p : Int), (lhOf g ts (wOf st.hours) p).toNat < n → 0 ≤ p → p < 7 → cn g (wOf st.hours) p = 0 → wOf st.hours p = none
  | 0, p, hn, _, _, _ => by (first | lia | omega)
  | n + 1, p, hn, h0, h7, hc => by
    cases hw : wOf st.hours p with
    | none => rfl
    | some v =>
      exfalso
      obtain ⟨r, hr, hr7, hcr, hv, _⟩ := W_some I hh G h0 h7 hw
      have hne : gI g p ≠ [] := fun e => by rw [e] at hr; simp at hr
      obtain ⟨r1, hr1, v1, hw1, e1, hmax⟩ := lh_some (ts := ts) hc hne
      obtain ⟨u, hu, huv⟩ := hmax r hr
      obtain ⟨r2, hr2, h27, hc2, e2, _⟩ := W_some I hh G hr7.1 hr7.2 hu
      have hs := cn_zero.mp hcr r2 hr2
      have t1 := (G.tr p h0 h7).1
      have t2 := (G.tr r hr7.1 hr7.2).1
      have p2 := lh_nonneg I hh G h27.1 h27.2 hc2
      have := disj I hh G n r2 (by (first | lia | omega)) h27.1 h27.2 hc2
      rw [this] at hs; cases hs
theorem disj' (I : RInv g ts st) (hh : st.heap = []) (G : Game g ts) {p : Int} (h0 : 0 ≤ p) (h7 : p < 7) (hc : cn g (wOf st.hours) p = 0) : wOf st.hours p = none := disj I hh G _ p (Nat.lt_succ_self _) h0 h7 hc

/-- the hour at which a position is settled -/
noncomputable def HH (g : List (List Int)) (ts : List Int) (W : Int → Option Int) (p : Int) : Option Int := if cn g W p = 0 then some (lhOf g ts W p) else W p
theorem HH_lost {W : Int → Option Int} {p : Int} (hc : cn g W p = 0) : HH g ts W p = some (lhOf g ts W p) := by unfold HH; rw [if_pos hc]
theorem HH_won (I : RInv g ts st) (hh : st.heap = []) (G : Game g ts) {p v : Int} (h0 : 0 ≤ p) (h7 : p < 7) (hw : wOf st.hours p = some v) : HH g ts (wOf st.hours) p = some v := by
  unfold HH
  split
  · rename_i hc
    have := disj' I hh G h0 h7 hc
    rw [hw] at this; cases this
  · exact hw
theorem HH_step (I : RInv g ts st) (hh : st.heap = []) (G : Game g ts) {p v : Int} (h0 : 0 ≤ p) (h7 : p < 7) (h : HH g ts (wOf st.hours) p = some v) : v = 0 ∨ ∃ r u, 0 ≤ r ∧ r < 7 ∧ HH g ts (wOf st.hours) r = some u ∧ 0 ≤ u ∧ v = u + tI ts p := by
  by_cases hc : cn g (wOf st.hours) p = 0
  · rw [HH_lost hc] at h
    injection h with h
    by_cases hn : gI g p = []
    · left; rw [← h, lh_nil hn]
    · right
      obtain ⟨r, hr, v', hw, e, _⟩ := lh_some (ts := ts) hc hn
      have hr7 := G.gr p h0 h7 r hr
      obtain ⟨r2, hr2, h27, hc2, e2, _⟩ := W_some I hh G hr7.1 hr7.2 hw
      have := lh_nonneg I hh G h27.1 h27.2 hc2
      have t2 := (G.tr r hr7.1 hr7.2).1
      exact ⟨r, v', hr7.1, hr7.2, HH_won I hh G hr7.1 hr7.2 hw, by (first | lia | omega), by (first | lia | omega)⟩
  · unfold HH at h
    rw [if_neg hc] at h
    right
    obtain ⟨r, hr, hr7, hcr, hv, _⟩ := W_some I hh G h0 h7 h
    exact ⟨r, _, hr7.1, hr7.2, HH_lost hcr, lh_nonneg I hh G hr7.1 hr7.2 hcr, hv⟩

theorem filter_lt {α : Type} {P Q : α → Bool} : ∀ {l : List α} {a : α}, (∀ x ∈ l, P x = true → Q x = true) → a ∈ l → P a = false → Q a = true → (l.filter P).length + 1 ≤ (l.filter Q).length
  | [], a, _, h, _, _ => by simp at h
  | b :: l, a, hpq, ha, h1, h2 => by
    have mono : (l.filter P).length ≤ (l.filter Q).length := by
      rw [← List.countP_eq_length_filter, ← List.countP_eq_length_filter]
      exact List.countP_mono_left fun x hx h => hpq x (List.mem_cons_of_mem _ hx) h
    rw [List.filter_cons, List.filter_cons]
    rcases List.mem_cons.mp ha with rfl | ha
    · rw [h1, h2]
      simp only [Bool.false_eq_true, if_false, if_true, List.length_cons]
      (first | lia | omega)
    · have ih := filter_lt (fun x hx h => hpq x (List.mem_cons_of_mem _ hx) h) ha h1 h2
      have hb := hpq b List.mem_cons_self
      cases hP : P b <;> cases hQ : Q b
      · simpa using ih
      · simp; (first | lia | omega)
      · rw [hP, hQ] at hb; exact absurd (hb rfl) (by decide)
      · simp; (first | lia | omega)
noncomputable def below (g : List (List Int)) (ts : List Int) (W : Int → Option Int) (v : Int) : Nat := ((rangeI 0 7).filter fun p => match HH g ts W p with | some u => decide (u < v) | none => false).length
theorem below_lt {W : Int → Option Int} {r u v : Int} (h0 : 0 ≤ r) (h7 : r < 7) (h : HH g ts W r = some u) (huv : u < v) : below g ts W u + 1 ≤ below g ts W v := by
  unfold below
  refine filter_lt (a := r) (fun x hx h => ?_) (rangeI_mem.mpr ⟨h0, h7⟩) ?_ ?_
  · split at h <;> simp at h ⊢
    (first | lia | omega)
  · rw [h]; simp
  · rw [h]; simpa using huv
theorem below_6 {W : Int → Option Int} {r u : Int} (h0 : 0 ≤ r) (h7 : r < 7) (h : HH g ts W r = some u) : below g ts W u ≤ 6 := by
  have := below_lt (v := u + 1) h0 h7 h (by (first | lia | omega))
  have h2 : below g ts W (u + 1) ≤ 7 := by
    unfold below
    refine Nat.le_trans (List.length_filter_le _ _) ?_
    unfold rangeI; simp
  (first | lia | omega)
theorem HH_bound (I : RInv g ts st) (hh : st.heap = []) (G : Game g ts) : ∀ (n : Nat) (p v : Int), below g ts (wOf st.hours) v < n → 0 ≤ p → p < 7 → HH g ts (wOf st.hours) p = some v → v ≤ 3 * (below g ts (wOf st.hours) v : Int)
  | 0, p, v, hn, _, _, _ => by (first | lia | omega)
  | n + 1, p, v, hn, h0, h7, h => by
    rcases HH_step I hh G h0 h7 h with rfl | ⟨r, u, r0, r7, hr, hu, rfl⟩
    · (first | lia | omega)
    · have t := G.tr p h0 h7
      have b := below_lt (v := u + tI ts p) r0 r7 hr (by (first | lia | omega))
      have := HH_bound I hh G n r u (by (first | lia | omega)) r0 r7 hr
      (first | lia | omega)
theorem HH_18 (I : RInv g ts st) (hh : st.heap = []) (G : Game g ts) {p v : Int} (h0 : 0 ≤ p) (h7 : p < 7) (h : HH g ts (wOf st.hours) p = some v) : v ≤ 18 := by
  have := HH_bound I hh G _ p v (Nat.lt_succ_self _) h0 h7 h
  have := below_6 h0 h7 h
  (first | lia | omega)
end
end text_P6
section text_W2
set_option maxRecDepth 100000
set_option maxHeartbeats 4000000

section
variable {w : World} {A : Around} {E : Value → Shared → Prop} {s : Shared} {R : Shared} {B : BM} {F : List (Addr × NM)} {μ μ' : Led} {Q : Value → Shared → Prop}

theorem siftup_c {l : Addr} {ks : List (Int × Int)} {x : Int × Int} {t0 : Tok} (hB : Base (KK w) B) (hA : Cx A 5) (X : St R B F μ s) (hz : ks.length ≤ 1000) (hx : ks[0]? = some x)
    (U : Set1 l (XL (PairB B) ks) (XL (PairB B) (siftupK ks x)) μ μ') (k : ∀ s', St R B F μ' s' → Q .none s') :
    wpAny (model PG w) A (call (.ref 183) [.ref l, .int 0 t0]) Q E s := by
  obtain ⟨ν, p1, p2⟩ := U.front
  have X := X.perm p1
  have hlt : 0 < ks.length := (List.getElem?_eq_some_iff.mp hx).1
  refine call_fn (binds := [("heap", .ref l), ("pos", .int 0 t0)]) hB hA X (by rfl) (by rfl) (BindsTo.of_eq rfl) (locs rfl) fun L A' s₁ hA' hF X₁ En => ?_
  walk_at "go"
  refine len_x X₁ (.inr (.head _)) hz (fun _ _ _ => ?_)
  walk_at "go"
  refine get_x (by assumption) (.inr (.head _)) (by (first | lia | omega)) (by (first | lia | omega)) (by simpa using hx) (fun v hv => ?_)
  walk_at "go"
  refine b_mul2 (by assumption) (fun _ _ _ => ?_) (by (first | lia | omega)) (by (first | lia | omega))
  walk_at "go"
  rename_i s₂ X₂
  refine While_ok (while_x (fun n s => ∃ m ks' p t t' t'', St R B ((L, m) :: F) ((l, XL (PairB B) ks') :: ν) s ∧ m "heap" = some (.ref l) ∧ m "endpos" = some (.int ks.length t'') ∧ m "startpos" = some (.int 0 t0) ∧ m "newitem" = some v ∧ m "pos" = some (.int (p : Nat) t) ∧ m "childpos" = some (.int (2 * (p : Nat) + 1) t') ∧
      ks'.length = ks.length ∧ p < ks.length ∧ suK ks' p = suK ks 0 ∧ n = ks.length - p) ?_ ks.length ?_)
  · rintro n s ⟨m, ks', p, t, t', t'', Y, m1, m2, m3, m4, m5, m6, e1, e2, e3, rfl⟩ Qw Qv Ew wn wc wb wr we
    walk_at "go"
    split
    · rename_i hc
      have hc : 2 * p + 1 < ks.length := by simp at hc; (first | lia | omega)
      refine wpAny_execs_cons ?_
      walk_at "ex"
      walk_at "ev"
      walk_at "go1"
      refine seq_x (fun s' => ∃ m' t3, St R B ((L, m') :: F) ((l, XL (PairB B) ks') :: ν) s' ∧ m' "heap" = some (.ref l) ∧ m' "endpos" = some (.int ks.length t'') ∧ m' "startpos" = some (.int 0 t0) ∧ m' "newitem" = some v ∧ m' "pos" = some (.int (p : Nat) t) ∧ m' "childpos" = some (.int (suC ks' p : Nat) t3)) ?_ ?_
      · intro Qm qf
        walk_at "go"
        refine ite_both (fun hr => ?_) fun hr => ?_
        · have hr : 2 * p + 2 < ks.length := by simp at hr; (first | lia | omega)
          walk_at "go"
          refine get_x (by assumption) (.inr (.head _)) (by (first | lia | omega)) (by (first | lia | omega)) (x := ks'.getD (2 * p + 1) (0, 0)) (by rw [show (2 * (p : Int) + 1).toNat = 2 * p + 1 by (first | lia | omega)]; exact getD_some (by (first | lia | omega))) (fun u1 hu1 => ?_)
          walk_at "go"
          refine get_x (by assumption) (.inr (.head _)) (by (first | lia | omega)) (by (first | lia | omega)) (x := ks'.getD (2 * p + 2) (0, 0)) (by rw [show (2 * (p : Int) + 1 + 1).toNat = 2 * p + 2 by (first | lia | omega)]; exact getD_some (by (first | lia | omega))) (fun u2 hu2 => ?_)
          refine lt_pair hA' (by assumption) hu1 hu2 ?_
          walk_at "go"
          refine ite_both (fun hl => ?_) fun hl => ?_
          · walk_at "go"
            have hs : (2 * (p : Int) + 1 + 1) = (suC ks' p : Nat) := by
              unfold suC
              rw [if_pos ⟨by (first | lia | omega), by simpa using hl⟩]; (first | lia | omega)
            refine qf _ ⟨_, _, by assumption, by walk_at "lk", by walk_at "lk", by walk_at "lk", by walk_at "lk", by walk_at "lk", by rw [← hs]; walk_at "lk"⟩
          · walk_at "go"
            have hs : (2 * (p : Int) + 1) = (suC ks' p : Nat) := by
              unfold suC
              rw [if_neg (fun q => hl (by simpa using q.2))]; (first | lia | omega)
            refine qf _ ⟨_, t', by assumption, by walk_at "lk", by walk_at "lk", by walk_at "lk", by walk_at "lk", by walk_at "lk", by rw [← hs]; walk_at "lk"⟩
        · walk_at "go"
          have hr : ¬ 2 * p + 2 < ks.length := by simp at hr; (first | lia | omega)
          have hs : (2 * (p : Int) + 1) = (suC ks' p : Nat) := by
            unfold suC
            rw [if_neg (fun q => hr (by (first | lia | omega)))]; (first | lia | omega)
          refine qf _ ⟨_, t', by assumption, by walk_at "lk", by walk_at "lk", by walk_at "lk", by walk_at "lk", by walk_at "lk", by rw [← hs]; walk_at "lk"⟩
      · rintro s3 ⟨m', t3, Y', n1, n2, n3, n4, n5, n6⟩
        have hq := suC_lt (ks := ks') (pos := p) (by (first | lia | omega))
        walk_at "go"
        refine get_x Y' (x := ks'.getD (suC ks' p) (0, 0)) (.inr (.head _)) (by (first | lia | omega)) (by (first | lia | omega)) (by rw [Int.toNat_natCast]; exact getD_some hq.1) (fun u hu => ?_)
        walk_at "go"
        refine set_x (by assumption) (by walk_at "set") hu (by (first | lia | omega)) (by (first | lia | omega)) (by (first | lia | omega)) (fun _ _ => ?_)
        walk_at "go"
        refine b_mul2 (by assumption) (fun _ _ _ => ?_) (by (first | lia | omega)) (by (first | lia | omega))
        walk_at "go"
        refine wn (ks.length - suC ks' p) _ (by (first | lia | omega)) ⟨_, _, suC ks' p, _, _, _, by assumption, by walk_at "lk", by walk_at "lk", by walk_at "lk", by walk_at "lk", by walk_at "lk", by walk_at "lk", by simpa using e1, by (first | lia | omega), ?_, rfl⟩
        rw [← e3, suK_eq ks' p, dif_pos (by (first | lia | omega))]
        rfl
    · rename_i hc
      have hc : ¬ 2 * p + 1 < ks.length := by simp at hc; (first | lia | omega)
      walk_at "go"
      refine we _ _ ?_
      walk_at "go"
      refine set_x (by assumption) (by walk_at "set") hv (by (first | lia | omega)) (by (first | lia | omega)) (by (first | lia | omega)) (fun _ Z => ?_)
      walk_at "go"
      have es : suK ks 0 = (ks', p) := by rw [← e3, suK_eq, dif_neg (by (first | lia | omega))]
      refine siftdown_c hB (hA'.le (by decide)) Z (x := x) (by simpa [e1] using hz) (by rw [Int.toNat_natCast, List.getElem?_set_self (by (first | lia | omega))]) .head (fun _ Z => ?_)
      walk_at "go"
      refine k _ (Z.leave.perm ?_)
      unfold siftupK at p2
      rw [es] at p2
      exact p2.symm
  · exact ⟨_, ks, 0, _, _, _, X₂, by walk_at "lk", by walk_at "lk", by walk_at "lk", by walk_at "lk", by walk_at "lk", by walk_at "lk", rfl, hlt, rfl, rfl⟩

theorem heappush_c {l : Addr} {ks : List (Int × Int)} {x : Int × Int} {v : Value} (hB : Base (KK w) B) (hA : Cx A 5) (X : St R B F μ s) (hz : ks.length ≤ 900) (hv : PairB B x v)
    (U : Set1 l (XL (PairB B) ks) (XL (PairB B) (pushK ks x)) μ μ') (k : ∀ s', St R B F μ' s' → Q .none s') :
    wpAny (model PG w) A (call (.ref 148) [.ref l, v]) Q E s := by
  obtain ⟨ν, p1, p2⟩ := U.front
  have X := X.perm p1
  refine call_fn (binds := [("heap", .ref l), ("item", v)]) hB hA X (by rfl) (by rfl) (BindsTo.of_eq rfl) (locs rfl) fun L A' s₁ hA' hF X₁ En => ?_
  walk_at "go"
  refine meth_x X₁ (.inr (.head _)) PySem.F.slot_list_append PySem.F.type_list_append ?_
  walk_at "go"
  refine append_x X₁ .head hv (by (first | lia | omega)) (fun _ _ => ?_)
  walk_at "go"
  refine len_x (by assumption) (.inr (.head _)) (by simp; (first | lia | omega)) (fun _ _ _ => ?_)
  walk_at "go"
  have e : ((ks ++ [x]).length : Int) - 1 = (ks.length : Nat) := by simp
  rw [e]
  refine siftdown_c hB (hA'.le (by decide)) (by assumption) (x := x) (by simp; (first | lia | omega)) (by simp) .head (fun _ Z => ?_)
  walk_at "go"
  exact k _ (Z.leave.perm p2.symm)

theorem heappop_c {l : Addr} {ks : List (Int × Int)} {x : Int × Int} (hB : Base (KK w) B) (hA : Cx A 6) (X : St R B F μ s) (hz : ks.length ≤ 900) (hx : ks[0]? = some x)
    (U : Set1 l (XL (PairB B) ks) (XL (PairB B) (popK ks)) μ μ') (k : ∀ v s', PairB B x v → St R B F μ' s' → Q v s') :
    wpAny (model PG w) A (call (.ref 155) [.ref l]) Q E s := by
  obtain ⟨ν, p1, p2⟩ := U.front
  have X := X.perm p1
  have hlt : 0 < ks.length := (List.getElem?_eq_some_iff.mp hx).1
  have hlast : ks.getLast? = some (ks.getLastD (0, 0)) := by
    cases ks with
    | nil => simp at hlt
    | cons a r => simp; rw [List.getLast?_eq_some_getLast (by simp)]; rfl
  refine call_fn (binds := [("heap", .ref l)]) hB hA X (by rfl) (by rfl) (BindsTo.of_eq rfl) (locs rfl) fun L A' s₁ hA' hF X₁ En => ?_
  walk_at "go"
  refine meth_x X₁ (.inr (.head _)) PySem.F.slot_list_pop PySem.F.type_list_pop ?_
  walk_at "go"
  refine pop_x X₁ .head hlast (by (first | lia | omega)) (fun v _ hv _ => ?_)
  walk_at "go"
  refine truthy_x (by assumption) (.inr (.head _)) (by simp; (first | lia | omega)) (fun s2 X2 => ?_)
  cases ed : ks.dropLast with
  | nil =>
    have e1 : ks = [x] := by
      match ks, hx, ed with
      | [a], hx, _ => simp at hx; rw [hx]
      | a :: b :: r, _, ed => simp at ed
    subst e1
    refine ite_both (fun hc => by simp [ed] at hc) fun _ => ?_
    walk_at "go"
    have e2 : popK [x] = [] := rfl
    rw [e2] at p2
    rw [ed] at X2
    exact k _ _ hv (X2.leave.perm p2.symm)
  | cons y r =>
    have e1 : y = x := by
      match ks, hx, ed with
      | a :: b :: q, hx, ed => simp at hx ed; rw [← ed.1, hx]
    subst e1
    refine ite_both (fun hc => ?_) fun hc => by simp at hc
    have hl2 : (y :: r).length ≤ 900 := by rw [← ed, List.length_dropLast]; (first | lia | omega)
    rw [ed] at X2
    walk_at "go"
    refine get_x (by assumption) (xs := y :: r) (x := y) (.inr (.head _)) (by (first | lia | omega)) (by (first | lia | omega)) (by simp) (fun u hu => ?_)
    walk_at "go"
    refine set_x (by assumption) .head hv (by (first | lia | omega)) (by (first | lia | omega)) (by simp) (fun _ _ => ?_)
    walk_at "go"
    refine siftup_c hB (hA'.le (by decide)) (by assumption) (x := ks.getLastD (0, 0)) (by simp at hl2 ⊢; (first | lia | omega)) (by simp) .head (fun _ Z => ?_)
    walk_at "go"
    have e3 : popK ks = siftupK (ks.getLastD (0, 0) :: r) (ks.getLastD (0, 0)) := by unfold popK; rw [ed]
    rw [e3] at p2
    exact k _ _ hu (Z.leave.perm p2.symm)
end
end text_W2
section text_W3
set_option maxRecDepth 100000
set_option maxHeartbeats 4000000

theorem All2.ints {ns : List Int} {vs : List Value} (h : All2 IntV ns vs) : IntsAre vs ns := by
  induction h with
  | nil => exact .nil
  | cons h1 _ ih => obtain ⟨t, rfl⟩ := h1; exact .cons _ _ ih

section
variable {w : World} {A : Around} {E : Value → Shared → Prop} {s : Shared} {R : Shared} {B : BM} {F : List (Addr × NM)} {μ μ' : Led} {Q : Value → Shared → Prop} {a b : Int} {t u : Tok}

theorem add_c (hB : Base (KK w) B) (hA : Cx A 2) (X : St R B F μ s) (k : ∀ t s', St R B F μ s' → Q (.int (a + b) t) s') : wpAny (model PG w) A (call (.ref 203) [.int a t, .int b u]) Q E s := by
  refine call_fn (binds := [("a", .int a t), ("b", .int b u)]) hB hA X (by rfl) (by rfl) (BindsTo.of_eq rfl) (locs rfl) fun L A' s₁ hA' hF X₁ En => ?_
  walk_at "go"
  rename_i t' s' Z
  exact k t' s' Z.leave
theorem and_c (hB : Base (KK w) B) (hA : Cx A 2) (X : St R B F μ s) (k : ∀ t s', St R B F μ s' → Q (.int (Builtin.bitAnd a b) t) s') : wpAny (model PG w) A (call (.ref 210) [.int a t, .int b u]) Q E s := by
  refine call_fn (binds := [("a", .int a t), ("b", .int b u)]) hB hA X (by rfl) (by rfl) (BindsTo.of_eq rfl) (locs rfl) fun L A' s₁ hA' hF X₁ En => ?_
  walk_at "go"
  exact b_and X₁ fun t' s' Z => k t' s' Z.leave
theorem xor_c (hB : Base (KK w) B) (hA : Cx A 2) (X : St R B F μ s) (k : ∀ t s', St R B F μ s' → Q (.int (Builtin.bitXor a b) t) s') : wpAny (model PG w) A (call (.ref 224) [.int a t, .int b u]) Q E s := by
  refine call_fn (binds := [("a", .int a t), ("b", .int b u)]) hB hA X (by rfl) (by rfl) (BindsTo.of_eq rfl) (locs rfl) fun L A' s₁ hA' hF X₁ En => ?_
  walk_at "go"
  exact b_xor X₁ fun t' s' Z => k t' s' Z.leave
theorem lshift_c (hB : Base (KK w) B) (hA : Cx A 2) (X : St R B F μ s) (hb : 0 ≤ b) (hb2 : b ≤ 100) (k : ∀ t s', St R B F μ s' → Q (.int (1 * 2 ^ b.toNat) t) s') : wpAny (model PG w) A (call (.ref 217) [.int 1 t, .int b u]) Q E s := by
  refine call_fn (binds := [("a", .int 1 t), ("b", .int b u)]) hB hA X (by rfl) (by rfl) (BindsTo.of_eq rfl) (locs rfl) fun L A' s₁ hA' hF X₁ En => ?_
  walk_at "go"
  exact b_shl X₁ hb (by (first | lia | omega)) (by decide) fun t' s' Z => k t' s' Z.leave
theorem truth_c (hB : Base (KK w) B) (hA : Cx A 2) (X : St R B F μ s) (k : ∀ s', St R B F μ s' → Q (.bool (a != 0)) s') : wpAny (model PG w) A (call (.ref 196) [.int a t]) Q E s := by
  refine call_fn (binds := [("a", .int a t)]) hB hA X (by rfl) (by rfl) (BindsTo.of_eq rfl) (locs rfl) fun L A' s₁ hA' hF X₁ En => ?_
  walk_at "go"
  refine PyProof.Rows.truthy_int ?_
  refine ite_both (fun hc => ?_) fun hc => ?_
  · walk_at "go"
    have := k _ X₁.leave
    rw [hc] at this; exact this
  · walk_at "go"
    have hc : (a != 0) = false := by simpa using hc
    have := k _ X₁.leave
    rw [hc] at this; exact this
theorem contains_c {l : Addr} {ns : List Int} (hB : Base (KK w) B) (hA : Cx A 2) (X : St R B F μ s) (hl : LAt B μ l IntV ns) (k : ∀ s', St R B F μ s' → Q (.bool (ns.any (· == a))) s') : wpAny (model PG w) A (call (.ref 231) [.ref l, .int a t]) Q E s := by
  refine call_fn (binds := [("a", .ref l), ("b", .int a t)]) hB hA X (by rfl) (by rfl) (BindsTo.of_eq rfl) (locs rfl) fun L A' s₁ hA' hF X₁ En => ?_
  walk_at "go"
  obtain ⟨vs, n, r, e⟩ := X₁.lst hl
  refine in_list_ints (isList_of e) r.ints ?_
  walk_at "go"
  exact k _ X₁.leave
theorem getitem_c {α : Type} {rel : α → Value → Prop} {xs : List α} {x : α} {l : Addr} (hB : Base (KK w) B) (hA : Cx A 2) (X : St R B F μ s) (hl : LAt B μ l rel xs) (h0 : 0 ≤ a) (ha : a < 2 ^ 63) (hx : xs[a.toNat]? = some x) (k : ∀ v s', rel x v → St R B F μ s' → Q v s') :
    wpAny (model PG w) A (call (.ref 238) [.ref l, .int a t]) Q E s := by
  refine call_fn (binds := [("a", .ref l), ("b", .int a t)]) hB hA X (by rfl) (by rfl) (BindsTo.of_eq rfl) (locs rfl) fun L A' s₁ hA' hF X₁ En => ?_
  walk_at "go"
  exact get_x X₁ hl h0 ha hx fun v hv => k v _ hv X₁.leave
theorem setitem_c {α : Type} {rel : α → Value → Prop} {xs : List α} {x : α} {v : Value} {l : Addr} (hB : Base (KK w) B) (hA : Cx A 2) (X : St R B F μ s) (U : Set1 l (XL rel xs) (XL rel (xs.set a.toNat x)) μ μ') (hv : rel x v) (h0 : 0 ≤ a) (ha : a < 2 ^ 63) (hx : a < xs.length) (k : ∀ s', St R B F μ' s' → Q .none s') :
    wpAny (model PG w) A (call (.ref 245) [.ref l, .int a t, v]) Q E s := by
  refine call_fn (binds := [("a", .ref l), ("b", .int a t), ("c", v)]) hB hA X (by rfl) (by rfl) (BindsTo.of_eq rfl) (locs rfl) fun L A' s₁ hA' hF X₁ En => ?_
  walk_at "go"
  refine set_x X₁ U hv h0 ha hx fun _ Z => ?_
  walk_at "go"
  exact k _ Z.leave
end
end text_W3
section text_R12
set_option maxRecDepth 100000
set_option maxHeartbeats 8000000

theorem AInv.klen {g : List (List Int)} {ts : List Int} (G : Game g ts) {a : AS} {j : Nat} (hj : j ≤ 7) (I : AInv g j a) (nd : a.keys.Nodup) : a.keys.length ≤ 14 := by
  refine nodup_lt7 14 _ nd fun k hk => ?_
  rcases (I.km k).mp hk with h | h | ⟨p, hp, h⟩
  · (first | lia | omega)
  · (first | lia | omega)
  · have := G.gr p (by (first | lia | omega)) (by (first | lia | omega)) _ h
    (first | lia | omega)
theorem AInv.slen {g : List (List Int)} {a : AS} {j : Nat} (hj : j ≤ 7) (I : AInv g j a) (k : Int) : (a.S k).length ≤ 7 := by
  by_cases h : 7 ≤ k ∧ k < 14
  · have := I.s2 (k - 7) (by (first | lia | omega)) (by (first | lia | omega))
    rw [show 7 + (k - 7) = k by (first | lia | omega)] at this
    rw [this]
    refine Nat.le_trans (List.length_filter_le _ _) ?_
    unfold rangeI; simp; exact hj
  · rw [I.s0 k h]; simp
theorem St.weakAt {R s : Shared} {B : BM} {F : List (Addr × NM)} {μ μ' : Led} {a : Addr} {P P' : Obj → Prop} (X : St R B F μ s) (U : Set1 a P P' μ μ') (h : ∀ o, P o → P' o) : St R B F μ' s := by
  obtain ⟨ν, p1, p2⟩ := U.front
  exact ((X.perm p1).weak1 h).perm p2.symm
theorem St.pairsAt {R s : Shared} {B B₀ B₁ : BM} {F : List (Addr × NM)} {μ μ' : Led} {a : Addr} {xs : List PI} (X : St R B F μ s) (hs : Sub B₀ B₁) (U : Set1 a (XL (PairB B₀) xs) (XL (PairB B₁) xs) μ μ') : St R B F μ' s :=
  X.weakAt U fun o h => XL.mono h fun _ _ q => q.sub hs
theorem smeth_attr {w : World} {A : Around} {E : Value → Shared → Prop} {s : Shared} {R : Shared} {B : BM} {F : List (Addr × NM)} {μ : Led} {x dx d : Addr} {rv : Value} {np nf : Int} {expr : Bool} {name : Str} {f : Addr} {Q : Value → Shared → Prop} (hB : Base (KK w) B) (X : St R B F μ s) (hx : B x = some (instObj 137 dx)) (hd : (dx, SD d rv np nf) ∈ μ)
    (hf : findIn (KK w) (.ref 137) name = some (some (.ref f))) (ht : typeIn (KK w) (.ref f) = some (.type "function")) (hg : specialIn (KK w) (.ref f) "__get__" = some (some (.builtin "function.__get__"))) (hts : takesIn (KK w) (.ref f) = some false) (hc : copiedNames.contains name = false)
    (h : ∀ B' q s', Sub B B' → Base (KK w) B' → B' q = some (methodObj (.ref f) (.ref x)) → St R B' F μ s' → Q (.ref q) s')
    (h1 : name ≠ "_node2info" := by decide) (h2 : name ≠ "_ready_nodes" := by decide) (h3 : name ≠ "_npassedout" := by decide) (h4 : name ≠ "_nfinished" := by decide) :
    wpAny (model PG w) A (getAttr (.ref x) name expr) Q E s :=
  meth_attr (f := f) hB X hx hd (fun o ⟨m, hN, _, _, _, _, h5⟩ => ⟨4, m, hN, h5 name h1 h2 h3 h4⟩) (by rfl) (by rfl) (by rfl) hf ht hg hts hc h
section
variable {w : World} {A : Around} {E : Value → Shared → Prop} {s : Shared} {R : Shared} {B : BM} {F : List (Addr × NM)} {μ μ' : Led} {Q : Value → Shared → Prop}

theorem run_c {ps : List PI} {ts : List Int} {tv pv : Value} {l : List Env} (hB : Base (KK w) B) (hA : Cx A 12) (hfr : A.frames = some l) (hl : FrF l F) (X : St R B F μ s) (ht : ListB B IntV ts tv) (hp : ListB B (PairB B) ps pv)
    (hr : ∀ x ∈ ps, 0 ≤ x.1 ∧ x.1 < 7 ∧ 0 ≤ x.2 ∧ x.2 < 7) (hpl : ps.length ≤ 200) (G : Game (goalsOf (bookOf ps)) ts)
    (K : ∀ (B' : BM) (a x dx d rl la ha : Addr) (ns : List Nd) (st : RS) (keys : List Int) (S : Int → List Int) (lo ho : Obj) (s' : Shared), Sub B B' → Base (KK w) B' → TupB B' a [.ref x, .ref la, .ref ha] → B' x = some (instObj 137 dx) →
      NodF w B' d ns keys st.N S → SOk (goalsOf (bookOf ps)) keys S → RInv (goalsOf (bookOf ps)) ts st → st.heap = [] → B' la = some lo → XL (PairB B') st.log lo → B' ha = some ho → XL OptV st.hours ho →
      St R B' F ((dx, SD d (.ref rl) st.np st.nf) :: (rl, XL IntV []) :: (npL ns ++ μ)) s' → Q (.ref a) s') :
    wpAny (model PG w) A (call (.ref 265) [tv, pv]) Q E s := by
  refine call_fnC (binds := [("times", tv), ("pairs", pv)]) hB hA X (by rfl) (by rfl) (BindsTo.of_eq rfl) (by rfl) (by decide) fun L A' s₁ hA' hF X₁ En => ?_
  rw [hfr, Option.map_some] at hF
  have X₁ : St R B ((L, put (put (fun _ => none) "times" tv) "pairs" pv) :: F) ((L + 2, IsC none) :: (L + 1, IsC none) :: μ) s₁ := X₁
  obtain ⟨ta, to, rfl, hto, htx⟩ := id ht
  obtain ⟨pa, po, rfl, hpo, pvs, hpr, pn, rfl⟩ := id hp
  walk_at "go"
  refine newLst_ (P := XL IntV [0]) (by assumption) (fun c => ⟨_, .cons ⟨_, rfl⟩ .nil, c, rfl⟩) (by simp) (fun a0 s2 X2 => ?_)
  walk_at "go"
  refine mul7 (rel := IntV) (x := 0) (by assumption) (by walk_at "mem") (fun bk s3 X3 => ?_)
  walk_at "go"
  rename_i s4 X4
  have hplen : pvs.length = ps.length := hpr.length
  have X4 := (X4.perm (μ' := (a0, XL IntV [0]) :: (bk, XL IntV (bookOf [])) :: (L + 2, IsC none) :: (L + 1, IsC (some (.ref bk))) :: μ) (by show List.Perm (_ :: (bk, XL IntV (List.replicate 7 0)) :: _) _; walk_at "pm")).drop1
  clear X X₁ X2 X3
  refine it_list hA'.handled X4 hpo (fun I o s5 T X5 => ?_)
  refine for_x (fun i B' m' μ' => B = B' ∧ m' "times" = some (.ref ta) ∧ (bk, XL IntV (bookOf (ps.take i))) :: (L + 2, IsC none) :: (L + 1, IsC (some (.ref bk))) :: μ = μ') T X5 ⟨rfl, by walk_at "lk", rfl⟩ (fun v s' Q' E' hi hq => go_tup rfl hi hq) ?_ ?_
  · rintro i v B' m' μ' o' s' E' hi hv hs' ⟨rfl, m1, rfl⟩ Y Qn qn
    obtain ⟨x, hx, hxv⟩ := hpr.getV hv
    obtain ⟨qa, ta, tb, pc, rfl, hqa⟩ := id hxv
    have hxr := hr x (List.mem_of_getElem? hx)
    have hbl := bookOf_len (ps.take i)
    have e4 : bookOf (ps.take (i + 1)) = bookStep (bookOf (ps.take i)) x := by rw [List.take_add_one, hx]; exact bookOf_snoc _ _
    refine assign_tup (vs := [.int x.1 ta, .int x.2 tb]) hA'.handled Y ⟨pc, Y.keep _ _ hqa⟩ (fun s6 X6 => ?_) rfl rfl
    walk_at "go"
    refine getitem_c (rel := IntV) (x := (bookOf (ps.take i)).getD x.1.toNat 0) hB (hA'.le (by decide)) (by assumption) (.inr (by walk_at "mem")) (by (first | lia | omega)) (by (first | lia | omega)) (getD_some (by (first | lia | omega))) (fun v s7 hv X7 => ?_)
    obtain ⟨t7, rfl⟩ := hv
    walk_at "go"
    refine lshift_c hB (hA'.le (by decide)) (by assumption) (by (first | lia | omega)) (by (first | lia | omega)) (fun t8 s8 X8 => ?_)
    walk_at "go"
    refine xor_c hB (hA'.le (by decide)) (by assumption) (fun t9 s9 X9 => ?_)
    walk_at "go"
    refine setitem_c (rel := IntV) (x := Builtin.bitXor ((bookOf (ps.take i)).getD x.1.toNat 0) (1 * 2 ^ x.2.toNat)) hB (hA'.le (by decide)) (by assumption) (by walk_at "set") ⟨t9, rfl⟩ (by (first | lia | omega)) (by (first | lia | omega)) (by (first | lia | omega)) (fun s10 X10 => ?_)
    walk_at "go"
    exact qn _ _ ⟨B, _, _, Sub.refl _, X10, rfl, by walk_at "lk", by rw [e4]; rfl⟩
  · rintro B' m' μ' s' hs' ⟨rfl, m1, rfl⟩ Y
    rw [hplen, List.take_length] at Y
    have hbl := bookOf_len ps
    walk_at "go"
    refine comp_a Y (fun B' => ListB B' IntV) (by rfl) (by rfl) rfl (by decide) (by rfl) ?_
    walk_at "go"
    refine range_1 (by assumption) (fun r s2 X2 => ?_)
    refine it_range0 hA'.handled X2 (k := 7) (by decide) (fun I o s3 T X3 => ?_)
    refine ⟨fun C i B' m' μ' xs => i ≤ 7 ∧ (List.range i).map (fun p => goalRow (bookOf ps) p 7) = xs ∧ ∃ pv, (C + 1, IsC pv) :: ((bk, XL IntV (bookOf ps)) :: (L + 2, IsC none) :: (L + 1, IsC (some (.ref bk))) :: μ) = μ', I, 7, _, o, B, _, m', _, rfl, T, X3, fun C i B' m' μ' xs h => by rw [← h.2.1]; simp; (first | lia | omega), fun B1 B2 hs y v h => h.sub hs fun _ _ q => q, fun C => ⟨by (first | lia | omega), rfl, none, rfl⟩, ?_, ?_⟩
    · rintro C D' i v B' m2 μ' o' s' E' xs hi ⟨t, rfl⟩ hs ⟨hi7, rfl, pv, rfl⟩ Y Qy Qm qy qm
      have hB' := hB.sub hs
      walk_at "go"
      rename_i s4 X4
      refine comp_p X4 IntV (fun j => goalRow (bookOf ps) i j) (by rfl) rfl (by decide) ?_
      walk_at "go"
      refine range_1 (by assumption) (fun r s2 X2 => ?_)
      refine it_range0 hA'.handled X2 (k := 7) (by decide) (fun I2 o2 s3 T X3 => ?_)
      refine ⟨I2, 7, _, o2, _, _, _, rfl, T, X3, fun j hj => Nat.le_trans (goalRow_len _ _ _) (by (first | lia | omega)), rfl, ?_, ?_⟩
      · rintro C2 D2 j v m2 o3 s5 E2 hj ⟨t, rfl⟩ Y2 Qy Qm qy qm
        walk_at "go"
        refine getitem_c (rel := IntV) (x := (bookOf ps).getD i 0) hB' (hA'.le (by decide)) (by assumption) (.inr (by walk_at "mem")) (by (first | lia | omega)) (by (first | lia | omega)) (by rw [Int.toNat_natCast]; exact getD_some (by (first | lia | omega))) (fun v s7 hv X7 => ?_)
        obtain ⟨t7, rfl⟩ := hv
        walk_at "go"
        refine lshift_c hB' (hA'.le (by decide)) (by assumption) (by (first | lia | omega)) (by (first | lia | omega)) (fun t8 s8 X8 => ?_)
        walk_at "go"
        refine and_c hB' (hA'.le (by decide)) (by assumption) (fun t9 s9 X9 => ?_)
        walk_at "go"
        refine truth_c hB' (hA'.le (by decide)) (by assumption) (fun s10 X10 => ?_)
        rw [Int.toNat_natCast]
        walk_at "go"
        refine wpAny_is_plain rfl ?_
        walk_at "go"
        have eb : (Value.bool (Builtin.bitAnd ((bookOf ps).getD i 0) (1 * 2 ^ j) != 0) == Value.bool true) = (Builtin.bitAnd ((bookOf ps).getD i 0) (1 * 2 ^ j) != 0) := by cases (Builtin.bitAnd ((bookOf ps).getD i 0) (1 * 2 ^ j) != 0) <;> rfl
        rw [eb]
        refine ite_both (fun hc => ?_) fun hc => ?_
        · walk_at "go"
          exact qy _ _ ⟨_, (j : Int), by assumption, ⟨_, rfl⟩, goalRow_yes hc⟩
        · exact qm _ ⟨_, by assumption, goalRow_no hc⟩
      · intro D2 s5 Y2
        obtain ⟨B2, hs2, ⟨o4, ho4, hx4⟩, _, Y2⟩ := Y2.freeze
        refine qy _ _ ⟨B2, _, _, goalRow (bookOf ps) i 7, hs2, Y2, ⟨by (first | lia | omega), ?_, _, rfl⟩, ⟨D2, o4, rfl, ho4, hx4⟩⟩
        rw [List.range_succ]; simp
    · rintro C D' B' m2 μ' s' xs hs ⟨hi7, rfl, pv, rfl⟩ Y
      obtain ⟨B2, hs2, ⟨go, hgo, hgx⟩, _, Y⟩ := Y.freeze
      have hgx : XL (ListB B2 IntV) (goalsOf (bookOf ps)) go := hgx.mono fun _ _ q => q.sub hs2 fun _ _ z => z
      have Y := Y.drop1
      generalize hg : goalsOf (bookOf ps) = g at *
      have hB2 := (hB.sub hs).sub hs2
      walk_at "go"
      refine sorter_new hB2 (hA'.le (by decide)) (by assumption) (fun B3 x dx d s5 hs3 hB3 hx X5 => ?_)
      walk_at "go"
      refine range_1 (by assumption) (fun r s6 X6 => ?_)
      refine it_range0 hA'.handled X6 (k := 7) (by decide) (fun I o s7 T X7 => ?_)
      have hgx3 : XL (ListB B3 IntV) g go := hgx.mono fun _ _ q => q.sub hs3 fun _ _ z => z
      have hgo3 := hs3 _ _ hgo
      generalize hμ1 : (bk, XL IntV (bookOf ps)) :: (L + 2, IsC none) :: (L + 1, IsC (some (.ref bk))) :: μ = μ1 at X7
      clear X5 X6
      refine for_x (fun j B' m' μ' => m' "times" = some (.ref ta) ∧ m' "goals" = some (.ref D') ∧ m' "sorter" = some (.ref x) ∧ ∃ ns, Nod B' ns (addsOf g j).keys (addsOf g j).N (addsOf g j).S ∧ (∀ q, q ∉ (addsOf g j).keys → (addsOf g j).N q = 0 ∧ (addsOf g j).S q = []) ∧
        (dx, SD d .none 0 0) :: (d, DI PG w d (kvOf ns)) :: (ndL ns ++ μ1) = μ') T X7 ⟨by walk_at "lk", by walk_at "lk", by walk_at "lk", [], ⟨rfl, .nil, fun n h => by simp at h⟩, fun q _ => ⟨rfl, rfl⟩, rfl⟩ (fun v s' Q' E' hi hq => go_name hq) ?_ ?_
      · rintro j v B4 m4 μ4 o4 s4 E4 hj ⟨tj, rfl⟩ hs4 ⟨n1, n2, n3, ns, D, hout, rfl⟩ Y Qn qn
        have hB4 := hB3.sub hs4
        have hx4 := hs4 _ _ hx
        have AI := AInv.all G j (by (first | lia | omega))
        have hk14 := AI.klen G (by (first | lia | omega)) D.nd
        have hs7 := AI.slen (by (first | lia | omega))
        have esucc := addsOf_succ g j
        generalize addsOf g j = a at D hout AI hk14 hs7 esucc Y
        walk_at "go"
        refine smeth (f := 87) hB4 (by assumption) hx4 (by walk_at "mem") (by rfl) (by rfl) ?_
        walk_at "go"
        rename_i s8 X8
        refine add_k (preds := []) (vs := []) hB4 (hA'.le (by decide)) hx4 D (by simp; (first | lia | omega)) hout (fun p => by have := hs7 p; simp; (first | lia | omega)) .nil (X8.perm (μ' := (dx, SD d .none 0 0) :: (d, DI PG w d (kvOf ns)) :: (ndL ns ++ (I, ItP o4) :: μ1)) (by walk_at "pm")) (fun B5 ns5 s9 hs5 hB5 D5 hout5 X9 => ?_)
        have hx5 := hs5 _ _ hx4
        have hk15 := addKey_len a.keys (7 + (j : Int))
        obtain ⟨gvs, hgv, gc, rfl⟩ := id hgx3
        have hgjj : g[j]? = some (g.getD j []) := getD_some (by rw [G.gl]; exact hj)
        walk_at "go"
        refine MethodCallS_ ?_
        walk_at "go"
        refine smeth_attr (f := 87) hB5 (by assumption) hx5 (by walk_at "mem") (by rfl) (by rfl) (by rfl) (by rfl) (by decide +kernel) (fun B6 q s10 hs6 hB6 hq X10 => ?_)
        have hs36 := (hs4.trans hs5).trans hs6
        have hgx6 : XL (ListB B6 IntV) g (W.listOf gvs.toArray gc) := ⟨gvs, hgv.mono fun _ _ q => q.sub hs36 fun _ _ z => z, gc, rfl⟩
        walk_at "go"
        refine cw_meS (K := KK w) (f := 87) (self := .ref x) (by rfl) ?_
        walk_at "go"
        refine items_star ?_
        refine comp_p (by assumption) IntV (fun n => ((g.getD j []).take n).map fun q => 7 + q) (by rfl) rfl (by decide) ?_
        walk_at "go"
        refine get_x (rel := ListB B6 IntV) (by assumption) (.inl ⟨_, hs36 _ _ hgo3, hgx6⟩) (by (first | lia | omega)) (by (first | lia | omega)) (by rw [Int.toNat_natCast]; exact hgjj) (fun v hv => ?_)
        obtain ⟨gja, _, rfl, hgja, gjs, hgjs, gjc, rfl⟩ := hv
        have hgjl : (g.getD j []).length ≤ 7 := nodup_lt7 7 _ (nodup_of_lt (by have := G.gs j (by (first | lia | omega)) (by (first | lia | omega)); unfold gI at this; rwa [Int.toNat_natCast] at this)) (by have := G.gr j (by (first | lia | omega)) (by (first | lia | omega)); unfold gI at this; rwa [Int.toNat_natCast] at this)
        refine it_list hA'.handled (by assumption) hgja (fun I2 o2 s12 T2 X12 => ?_)
        refine ⟨I2, _, _, o2, _, _, _, rfl, T2, X12, fun i hi => by simp only [List.length_map, List.length_take]; (first | lia | omega), rfl, ?_, ?_⟩
        · rintro C2 D2 i v m2 o3 s5 E2 hi hv Y2 Qy Qm qy qm
          obtain ⟨q, hq, tq, rfl⟩ := hgjs.getV hv
          walk_at "go"
          exact qy _ _ ⟨_, 7 + q, by assumption, ⟨_, rfl⟩, by rw [List.take_add_one, hq]; simp⟩
        · intro D2 s5 Y2
          have hgl2 := hgjs.length
          rw [hgl2, List.take_length] at Y2
          obtain ⟨pvs2, pn2, hpv2, hpd2⟩ := Y2.lst (.inr (.head _))
          refine star_x Y2 hpd2 (.inl rfl) (by rw [hpv2.length, List.length_map]; (first | lia | omega)) (fun s13 X13 => ?_)
          walk_at "go"
          refine ⟨methP_x hB6 X13 hq, wpAny_call (method_call (X13.keep _ _ hq) ?_)⟩
          simp only [List.nil_append, List.append_nil]
          have X13 : St R B6 _ ((D2, XL IntV (predsOf g j)) :: _) s13 := X13
          have hpl2 : (predsOf g j).length ≤ 7 := by unfold predsOf; rw [List.length_map]; exact hgjl
          refine add_kc (preds := predsOf g j) hB6 (hA'.le (by decide)) (hs6 _ _ hx5) (D5.sub hs6) (by simp only [addK, List.foldl_nil]; (first | lia | omega)) hout5 (fun p => by have := hs7 p; show (a.S p).length + _ ≤ _; (first | lia | omega)) hpv2 (X13.perm (μ' := (dx, SD d .none 0 0) :: (d, DI PG w d (kvOf ns5)) :: (ndL ns5 ++ (D2, XL IntV (predsOf g j)) :: (I, ItP o4) :: μ1)) (by walk_at "pm")) (fun B7 ns7 s14 hs7' hB7 D7 hout7 X14 => ?_)
          walk_at "go"
          refine qn _ _ ⟨B7, _, _, (hs5.trans hs6).trans hs7', X14.drop (μ' := (dx, SD d .none 0 0) :: (d, DI PG w d (kvOf ns7)) :: (ndL ns7 ++ (I, ItP o4) :: μ1)) (((((List.sublist_cons_self _ _)).append_left _).cons_cons _).cons_cons _) |>.perm (by walk_at "pm"), by walk_at "lk", by walk_at "lk", by walk_at "lk", ns7, ?_, ?_, rfl⟩
          · rw [esucc]; exact D7
          · rw [esucc]; exact hout7
      · rintro B4 m4 μ4 s4 hs4 ⟨n1, n2, n3, ns, D, hout, rfl⟩ Y
        have hB4 := hB3.sub hs4
        have hx4 := hs4 _ _ hx
        have AI := AInv.all G 7 (by (first | lia | omega))
        have hk14 := AI.klen G (by (first | lia | omega)) D.nd
        have hs7 := AI.slen (by (first | lia | omega))
        have O := AI.sok G
        have RI := runInit_inv G AI D.nd
        generalize addsOf g 7 = a at D hout AI hk14 hs7 Y O RI
        walk_at "go"
        refine smeth (f := 92) hB4 (by assumption) hx4 (by walk_at "mem") (by rfl) (by rfl) ?_
        walk_at "go"
        refine prepare_c (r := fun k => if k < 7 then 0 else 1) hB4 (hA'.le (by decide)) hF (FrF.pushF hF hl (by show ScopeKind.function ≠ ScopeKind.module; decide) rfl) hx4 D (by (first | lia | omega)) (fun k hk j hj => ?_) (by assumption) (fun B5 rl s5 hs5 hB5 D5 X5 => ?_)
        · by_cases h : 7 ≤ k ∧ k < 14
          · have := O.s2 (k - 7) (by (first | lia | omega)) (by (first | lia | omega))
            rw [show 7 + (k - 7) = k by (first | lia | omega)] at this
            rw [this, List.mem_filter, rangeI_mem] at hj
            refine ⟨(O.km j).mpr (by (first | lia | omega)), ?_⟩
            rw [if_pos (by (first | lia | omega)), if_neg (by (first | lia | omega))]; decide
          · rw [O.s0 k h] at hj; simp at hj
        · have hx5 := hs5 _ _ hx4
          subst hμ1
          walk_at "go"
          refine newLst_ (P := XL OptV [none]) (by assumption) (fun c => ⟨_, .cons rfl .nil, c, rfl⟩) (by simp) (fun h0 s6 X6 => ?_)
          walk_at "go"
          refine mul7 (rel := OptV) (x := none) (by assumption) (by walk_at "mem") (fun hrs s7 X7 => ?_)
          walk_at "go"
          refine newLst_ (P := XL (PairB B5) []) (by assumption) (fun c => ⟨_, .nil, c, rfl⟩) (by simp) (fun hp0 s8 X8 => ?_)
          walk_at "go"
          refine newLst_ (P := XL (PairB B5) []) (by assumption) (fun c => ⟨_, .nil, c, rfl⟩) (by simp) (fun lg s9 X9 => ?_)
          walk_at "go"
          refine smeth (f := 99) hB5 (by assumption) hx5 (by walk_at "mem") (by rfl) (by rfl) ?_
          walk_at "go"
          rename_i s10 X10
          have hrm : ∀ k ∈ readyOf a.keys a.N, k ∈ a.keys := fun k hk => (List.mem_filter.mp hk).1
          have hrl : (readyOf a.keys a.N).length ≤ 14 := Nat.le_trans (List.length_filter_le _ _) hk14
          refine ready_c hB5 (hA'.le (by decide)) hx5 D5 hrm (by (first | lia | omega)) (X10.perm (μ' := (dx, SD d (.ref rl) 0 0) :: (rl, XL IntV (readyOf a.keys a.N)) :: (npL ns ++ (hp0, XL (PairB B5) []) :: (lg, XL (PairB B5) []) :: (hrs, XL OptV (List.replicate 7 none)) :: (h0, XL OptV [none]) :: (bk, XL IntV (bookOf ps)) :: (L + 2, IsC (some (.ref hrs))) :: (L + 1, IsC (some (.ref bk))) :: μ)) (by walk_at "pm")) (fun B6 ns6 tr rvs s11 hs6 hB6 D6 hrv htr X11 => ?_)
          obtain ⟨tc, htr⟩ := htr
          have hrvl := hrv.length
          have hx6 := hs6 _ _ hx5
          have X11 := X11.pairsAt (a := hp0) (xs := []) hs6 (by walk_at "set")
          have X11 := X11.pairsAt (a := lg) (xs := []) hs6 (by walk_at "set")
          have X11 := (X11.perm (μ' := (h0, XL OptV [none]) :: (hp0, XL (PairB B6) []) :: (lg, XL (PairB B6) []) :: (hrs, XL OptV (List.replicate 7 none)) :: (dx, SD d (.ref rl) (0 + ((readyOf a.keys a.N).length : Int)) 0) :: (rl, XL IntV []) :: (npL ns6 ++ (bk, XL IntV (bookOf ps)) :: (L + 2, IsC (some (.ref hrs))) :: (L + 1, IsC (some (.ref bk))) :: μ)) (by walk_at "pm")).drop1
          clear X5 X6 X7 X8 X9 X10
          refine it_tuple hA'.handled X11 htr (fun I o s12 T X12 => ?_)
          refine for_x (fun j B' m' μ' => m' "times" = some (.ref ta) ∧ m' "goals" = some (.ref D') ∧ m' "sorter" = some (.ref x) ∧ m' "heap" = some (.ref hp0) ∧ m' "log" = some (.ref lg) ∧
            (hp0, XL (PairB B') ((((readyOf a.keys a.N).take j).filter fun k => decide (k < 7)).foldl (fun h k => pushK h (0, k)) [])) :: (lg, XL (PairB B') []) :: (hrs, XL OptV (List.replicate 7 none)) :: (dx, SD d (.ref rl) (0 + ((readyOf a.keys a.N).length : Int)) 0) :: (rl, XL IntV []) :: (npL ns6 ++ (bk, XL IntV (bookOf ps)) :: (L + 2, IsC (some (.ref hrs))) :: (L + 1, IsC (some (.ref bk))) :: μ) = μ') T X12
            ⟨by walk_at "lk", by walk_at "lk", by walk_at "lk", by walk_at "lk", by walk_at "lk", rfl⟩ (fun v s' Q' E' hi hq => go_name hq) ?_ ?_
          · rintro j v B7 m7 μ7 o7 s7 E7 hj hv hs7' ⟨e1, e2, e3, e4, e5, rfl⟩ Y Qn qn
            obtain ⟨k, hk, tk, rfl⟩ := hrv.getV hv
            have hB7 := hB6.sub hs7'
            have ek : (readyOf a.keys a.N).take (j + 1) = (readyOf a.keys a.N).take j ++ [k] := by rw [List.take_add_one, hk]; rfl
            have hhl : ((((readyOf a.keys a.N).take j).filter fun k => decide (k < 7)).foldl (fun h k => pushK h (0, k)) []).length ≤ 14 := by
              have := (init_perm (((readyOf a.keys a.N).take j).filter fun k => decide (k < 7)) []).length_eq
              rw [this, List.append_nil, List.length_map]
              refine Nat.le_trans (List.length_filter_le _ _) ?_
              rw [List.length_take]; (first | lia | omega)
            walk_at "go"
            refine ite_both (fun hc => ?_) fun hc => ?_
            · walk_at "go"
              refine @newPair _ _ _ _ _ _ _ _ _ _ _ _ _ _ _ (by assumption) (by assumption) (fun B8 pr s13 hs8 hB8 hpr8 X13 => ?_)
              have X13 := X13.pairsAt (a := hp0) (xs := ((((readyOf a.keys a.N).take j).filter fun k => decide (k < 7)).foldl (fun h k => pushK h (0, k)) [])) hs8 (by walk_at "set")
              have X13 := X13.pairsAt (a := lg) (xs := []) hs8 (by walk_at "set")
              walk_at "go"
              refine heappush_c (ks := ((((readyOf a.keys a.N).take j).filter fun k => decide (k < 7)).foldl (fun h k => pushK h (0, k)) [])) (x := (0, k)) hB8 (hA'.le (by decide)) X13 (by (first | lia | omega)) hpr8 (by walk_at "set") (fun s14 X14 => ?_)
              walk_at "go"
              refine qn _ _ ⟨B8, _, _, hs8, X14, by walk_at "lk", by walk_at "lk", by walk_at "lk", by walk_at "lk", by walk_at "lk", ?_⟩
              rw [ek, List.filter_append, List.filter_cons, if_pos hc, List.foldl_append]; rfl
            · walk_at "go"
              refine qn _ _ ⟨B7, _, _, Sub.refl _, by assumption, by walk_at "lk", by walk_at "lk", by walk_at "lk", by walk_at "lk", by walk_at "lk", ?_⟩
              rw [ek, List.filter_append, List.filter_cons, if_neg hc]; simp
          · rintro B7 m7 μ7 s7 hs7' ⟨e1, e2, e3, e4, e5, rfl⟩ Y
            have hB7 := hB6.sub hs7'
            rw [hrvl, List.take_length] at Y
            have Y : St R B7 ((L, m7) :: F) ((hp0, XL (PairB B7) (runInit a).heap) :: (lg, XL (PairB B7) (runInit a).log) :: (hrs, XL OptV (runInit a).hours) :: (dx, SD d (.ref rl) (runInit a).np (runInit a).nf) :: (rl, XL IntV []) :: (npL ns6 ++ (bk, XL IntV (bookOf ps)) :: (L + 2, IsC (some (.ref hrs))) :: (L + 1, IsC (some (.ref bk))) :: μ)) s7 := by
              have e : (runInit a).np = 0 + ((readyOf a.keys a.N).length : Int) := by show ((readyOf a.keys a.N).length : Int) = _; (first | lia | omega)
              rw [e]; exact Y
            have D7 : NodF w B7 d ns6 a.keys (runInit a).N a.S := D6.sub hs7'
            generalize runInit a = st0 at RI Y D7
            have hs36 : Sub B3 B7 := (((hs4.trans hs5).trans hs6).trans hs7')
            walk_at "go"
            have c2 : (L + 2, IsC (some (.ref hrs))) ∈ (bk, XL IntV (bookOf ps)) :: (L + 2, IsC (some (.ref hrs))) :: (L + 1, IsC (some (.ref bk))) :: μ := by walk_at "mem"
            have hν : List.Sublist μ ((bk, XL IntV (bookOf ps)) :: (L + 2, IsC (some (.ref hrs))) :: (L + 1, IsC (some (.ref bk))) :: μ) := .cons _ (.cons _ (.cons _ (List.Sublist.refl _)))
            generalize (bk, XL IntV (bookOf ps)) :: (L + 2, IsC (some (.ref hrs))) :: (L + 1, IsC (some (.ref bk))) :: μ = ν at Y c2 hν
            refine While_ok (while_x (fun n s => ∃ B8 m8 ns st, Sub B7 B8 ∧ St R B8 ((L, m8) :: F) ((hp0, XL (PairB B8) st.heap) :: (lg, XL (PairB B8) st.log) :: (hrs, XL OptV st.hours) :: (dx, SD d (.ref rl) st.np st.nf) :: (rl, XL IntV []) :: (npL ns ++ ν)) s ∧ (m8 "times" = some (.ref ta) ∧ m8 "goals" = some (.ref D') ∧ m8 "sorter" = some (.ref x) ∧ m8 "heap" = some (.ref hp0) ∧ m8 "log" = some (.ref lg)) ∧ NodF w B8 d ns a.keys st.N a.S ∧ RInv g ts st ∧ n = 8 - st.log.length) ?_ _ ⟨B7, m7, ns6, st0, Sub.refl _, Y, ⟨by walk_at "lk", by walk_at "lk", by walk_at "lk", by walk_at "lk", by walk_at "lk"⟩, D7, RI, rfl⟩)
            rintro n s8 ⟨B8, m8, ns, st, hs8, X8, ⟨f1, f2, f3, f4, f5⟩, D8, RI8, rfl⟩ Qw Qv Ew wn wc wb wr we
            have hB8 := hB7.sub hs8
            have hx8 := hs8 _ _ (hs7' _ _ hx6)
            have hs38 := hs36.trans hs8
            walk_at "go"
            by_cases hne : st.heap = []
            · refine truthy_x (rel := PairB B8) X8 (.inr (by walk_at "mem")) (by rw [hne]; simp) (fun s9 X9 => ?_)
              refine ite_both (fun hc => by rw [hne] at hc; exact absurd hc (by decide)) fun _ => ?_
              walk_at "go"
              refine we _ _ ?_
              walk_at "go"
              refine newTup_ (P := IsT [.ref x, .ref lg, .ref hrs]) (by assumption) (fun n => ⟨n, rfl⟩) (by simp) (fun tu s10 X10 => ?_)
              obtain ⟨B9, hs9, ⟨_, htu, n9, rfl⟩, _, X10⟩ := X10.freeze
              obtain ⟨B10, hs10, ⟨lo, hlo, hlx⟩, _, X10⟩ := X10.drop1.freeze
              obtain ⟨B11, hs11, ⟨ho, hho, hhx⟩, _, X10⟩ := X10.freeze
              have hs1011 := hs10.trans hs11
              refine K B11 tu x dx d rl lg hrs ns st a.keys a.S lo ho s10 ((((((((hs.trans hs2).trans hs3).trans hs4).trans hs5).trans hs6).trans hs7').trans hs8).trans (hs9.trans hs1011)) (((hB8.sub hs9).sub hs10).sub hs11) ⟨n9, hs1011 _ _ htu⟩ (hs1011 _ _ (hs9 _ _ hx8)) (D8.sub (hs9.trans hs1011)) (hg ▸ O) (hg ▸ RI8) hne (hs11 _ _ hlo) (hlx.mono fun _ _ q => q.sub (hs9.trans hs1011)) hho hhx ?_
              refine (X10.leave.drop (μ' := (dx, SD d (.ref rl) st.np st.nf) :: (rl, XL IntV []) :: (npL ns ++ μ)) ?_)
              exact .cons_cons _ (.cons_cons _ (hν.append_left _))
            obtain ⟨SK, RI9⟩ := RI8.step G O hne
            refine truthy_x (rel := PairB B8) X8 (.inr (by walk_at "mem")) (by have := SK.len; (first | lia | omega)) (fun s9 X9 => ?_)
            refine ite_both (fun _ => ?_) fun hc => by exfalso; apply hc; cases h : st.heap <;> simp_all
            have hlen := SK.len
            walk_at "ex"
            refine Assign_Tuple ?_
            walk_at "go"
            refine heappop_c (ks := st.heap) (x := topOf st) hB8 (hA'.le (by decide)) (by assumption) (by (first | lia | omega)) SK.top (by walk_at "set") (fun v s10 hv X10 => ?_)
            obtain ⟨qa, t1, t2, qn, rfl, hqa⟩ := hv
            refine assign_tup (vs := [.int (topOf st).1 t1, .int (topOf st).2 t2]) hA'.handled X10 ⟨qn, X10.keep _ _ hqa⟩ (fun s11 X11 => ?_) rfl rfl
            walk_at "go"
            refine meth_x (rel := PairB B8) (by assumption) (.inr (by walk_at "mem")) PySem.F.slot_list_append rfl ?_
            walk_at "go"
            refine @newPair _ _ _ _ _ _ _ _ _ _ _ _ _ _ _ (by assumption) (by assumption) (fun B9 pr s12 hs9 hB9 hpr9 X12 => ?_)
            have X12 := X12.pairsAt (a := hp0) (xs := popK st.heap) hs9 (by walk_at "set")
            have X12 := X12.pairsAt (a := lg) (xs := st.log) hs9 (by walk_at "set")
            walk_at "go"
            refine append_x (rel := PairB B9) (x := topOf st) X12 (by walk_at "set") hpr9 (by (first | lia | omega)) (fun s13 X13 => ?_)
            have hx9 := hs9 _ _ hx8
            clear X8 X9 X10 X11
            walk_at "go"
            refine range_1 (by assumption) (fun r s14 X14 => ?_)
            refine it_range0 hA'.handled X14 (k := 7) (by decide) (fun I o s15 T X15 => ?_)
            refine for_x (fun j B' m' μ' => (m' "times" = some (.ref ta) ∧ m' "goals" = some (.ref D') ∧ m' "sorter" = some (.ref x) ∧ m' "heap" = some (.ref hp0) ∧ m' "log" = some (.ref lg)) ∧ (∃ t1, m' "hour" = some (.int (topOf st).1 t1)) ∧ (∃ t2, m' "p" = some (.int (topOf st).2 t2)) ∧ ∃ ns, NodF w B' d ns a.keys (wonOf g ts a.S st j).P.1 a.S ∧
              (hp0, XL (PairB B') (popK st.heap)) :: (lg, XL (PairB B') (st.log ++ [topOf st])) :: (hrs, XL OptV (wonOf g ts a.S st j).hours) :: (dx, SD d (.ref rl) st.np (wonOf g ts a.S st j).nf) :: (rl, XL IntV (wonOf g ts a.S st j).P.2) :: (npL ns ++ ν) = μ') T X15 ⟨⟨by walk_at "lk", by walk_at "lk", by walk_at "lk", by walk_at "lk", by walk_at "lk"⟩, ⟨t1, by walk_at "lk"⟩, ⟨t2, by walk_at "lk"⟩, ns, D8.sub hs9, rfl⟩ (fun v s' Q' E' hi hq => go_name hq) ?_ ?_
            · rintro j v B10 m10 μ10 o10 s16 E10 hj ⟨tj, rfl⟩ hs10 ⟨⟨p1, p2, p3, p4, p5⟩, ⟨t1, p6⟩, ⟨t2, p7⟩, ns, D10, rfl⟩ Y Qn qn
              have hB10 := hB9.sub hs10
              have hx10 := hs10 _ _ hx9
              have hs310 := (hs38.trans hs9).trans hs10
              obtain ⟨gvs, hgv, gc, rfl⟩ := id hgx3
              have hgx10 : XL (ListB B10 IntV) g (W.listOf gvs.toArray gc) := ⟨gvs, hgv.mono fun _ _ q => q.sub hs310 fun _ _ z => z, gc, rfl⟩
              have hgjj : g[j]? = some (gI g j) := by unfold gI; rw [Int.toNat_natCast]; exact getD_some (by rw [G.gl]; exact hj)
              have hgjl : (gI g j).length ≤ 7 := nodup_lt7 7 _ (nodup_of_lt (G.gs j (by (first | lia | omega)) (by (first | lia | omega)))) (G.gr j (by (first | lia | omega)) (by (first | lia | omega)))
              have htj : ts[j]? = some (tI ts j) := by unfold tI; rw [Int.toNat_natCast]; exact getD_some (by rw [G.tl]; exact hj)
              have hto10 := hs10 _ _ (hs9 _ _ (hs8 _ _ (hs7' _ _ (hs6 _ _ (hs5 _ _ (hs4 _ _ (hs3 _ _ (hs2 _ _ (hs _ _ hto)))))))))
              have SKh := SK.hrs j (by (first | lia | omega))
              have hwon := SK.won j hj
              have ewon : wonOf g ts a.S st (j + 1) = wonStep g ts a.S (topOf st).1 (topOf st).2 (wonOf g ts a.S st j) j := wonAll_succ _ _ _ _ _ _ _
              generalize wonOf g ts a.S st j = ws at D10 Y SKh hwon ewon
              walk_at "go"
              refine get_x (rel := ListB B10 IntV) (by assumption) (.inl ⟨_, hs310 _ _ hgo3, hgx10⟩) (by (first | lia | omega)) (by (first | lia | omega)) (by rw [Int.toNat_natCast]; exact hgjj) (fun v hv => ?_)
              obtain ⟨gja, goj, rfl, hgja, hgjx⟩ := hv
              walk_at "go"
              refine contains_c (ns := gI g j) hB10 (hA'.le (by decide)) (by assumption) (.inl ⟨goj, hgja, hgjx⟩) (fun s17 X17 => ?_)
              walk_at "go"
              have hwj : wOf ws.hours (j : Int) = ws.hours.getD j none := by unfold wOf; rw [if_pos (by (first | lia | omega)), Int.toNat_natCast]
              have eno : ¬ ((gI g j).any (· == (topOf st).2) && (wOf ws.hours j).isNone) = true → wonStep g ts a.S (topOf st).1 (topOf st).2 ws j = ws := fun h => by unfold wonStep; rw [if_neg h]
              have eyes : ((gI g j).any (· == (topOf st).2) && (wOf ws.hours j).isNone) = true → wonStep g ts a.S (topOf st).1 (topOf st).2 ws j = ⟨ws.hours.set j (some ((topOf st).1 + tI ts j)), doneAll a.S ws.P [7 + (j : Int)], ws.nf + 1⟩ := fun h => by unfold wonStep; rw [if_pos h]
              refine ite_both (fun hc1 => ?_) fun hc1 => ?_
              · walk_at "go"
                refine get_x (rel := OptV) (x := ws.hours.getD j none) (by assumption) (.inr (by walk_at "mem")) (by (first | lia | omega)) (by (first | lia | omega)) (by rw [Int.toNat_natCast]; exact getD_some (by (first | lia | omega))) (fun v hv => ?_)
                cases hho : ws.hours.getD j none with
                | none =>
                  rw [hho] at hv hwj
                  have hv : v = .none := hv
                  subst hv
                  have eyes := eyes (by rw [hc1, hwj]; rfl)
                  have hwon := hwon hc1 hwj
                  walk_at "go"
                  refine get_x (rel := IntV) (by assumption) (.inl ⟨to, hto10, htx⟩) (by (first | lia | omega)) (by (first | lia | omega)) (by rw [Int.toNat_natCast]; exact htj) (fun v hv => ?_)
                  obtain ⟨t4, rfl⟩ := hv
                  walk_at "go"
                  refine add_c hB10 (hA'.le (by decide)) (by assumption) (fun t5 s18 X18 => ?_)
                  walk_at "go"
                  refine setitem_c (rel := OptV) (x := some ((topOf st).1 + tI ts j)) hB10 (hA'.le (by decide)) (by assumption) (by walk_at "set") ⟨t5, rfl⟩ (by (first | lia | omega)) (by (first | lia | omega)) (by (first | lia | omega)) (fun s19 X19 => ?_)
                  rw [Int.toNat_natCast] at X19
                  walk_at "go"
                  refine smeth (f := 120) hB10 (by assumption) hx10 (by walk_at "mem") (by rfl) (by rfl) ?_
                  walk_at "go"
                  rename_i s20 X20
                  refine done_c (ks := [7 + (j : Int)]) (ready := ws.P.2) (N := ws.P.1) hB10 (hA'.le (by decide)) hx10 D10 (.cons ⟨_, rfl⟩ .nil) (by simp) (fun i k hik => ?_) (fun k => Nat.le_trans (hs7 k) (by decide)) (by (first | lia | omega)) (fun k hk q hq => ?_)
                    (X20.perm (μ' := (dx, SD d (.ref rl) st.np ws.nf) :: (rl, XL IntV ws.P.2) :: (npL ns ++ (I, ItP o10) :: (hp0, XL (PairB B10) (popK st.heap)) :: (lg, XL (PairB B10) (st.log ++ [topOf st])) :: (hrs, XL OptV (ws.hours.set j (some ((topOf st).1 + tI ts j)))) :: ν)) (by walk_at "pm")) (fun B11 ns11 s21 hs11 hB11 D11 X21 => ?_)
                  · match i, hik with
                    | 0, hik => simp at hik; subst hik; exact ⟨(O.km _).mpr (by (first | lia | omega)), hwon⟩
                    | i + 1, hik => simp at hik
                  · simp at hk; subst hk
                    rw [O.s2 _ (by (first | lia | omega)) (by (first | lia | omega)), List.mem_filter, rangeI_mem] at hq
                    exact (O.km _).mpr (by (first | lia | omega))
                  · have X21 := X21.pairsAt (a := hp0) (xs := popK st.heap) hs11 (by walk_at "set")
                    have X21 := X21.pairsAt (a := lg) (xs := st.log ++ [topOf st]) hs11 (by walk_at "set")
                    walk_at "go"
                    refine qn _ _ ⟨B11, _, _, hs11, X21.perm (μ' := (I, ItP o10) :: (hp0, XL (PairB B11) (popK st.heap)) :: (lg, XL (PairB B11) (st.log ++ [topOf st])) :: (hrs, XL OptV (ws.hours.set j (some ((topOf st).1 + tI ts j)))) :: (dx, SD d (.ref rl) st.np (ws.nf + 1)) :: (rl, XL IntV (doneAll a.S ws.P [7 + (j : Int)]).2) :: (npL ns11 ++ ν)) (by walk_at "pm"), ⟨by walk_at "lk", by walk_at "lk", by walk_at "lk", by walk_at "lk", by walk_at "lk"⟩, ⟨t1, by walk_at "lk"⟩, ⟨t2, by walk_at "lk"⟩, ns11, ?_, ?_⟩
                    · rw [ewon, eyes]; exact D11
                    · rw [ewon, eyes]
                | some h =>
                  rw [hho] at hv hwj
                  obtain ⟨t4, rfl⟩ := hv
                  have eno := eno (by rw [hwj]; simp)
                  walk_at "go"
                  refine qn _ _ ⟨B10, _, _, Sub.refl _, by assumption, ⟨by walk_at "lk", by walk_at "lk", by walk_at "lk", by walk_at "lk", by walk_at "lk"⟩, ⟨t1, by walk_at "lk"⟩, ⟨t2, by walk_at "lk"⟩, ns, ?_, ?_⟩
                  · rw [ewon, eno]; exact D10
                  · rw [ewon, eno]
              · have eno := eno (by intro h; rw [Bool.and_eq_true] at h; exact hc1 h.1)
                walk_at "go"
                refine qn _ _ ⟨B10, _, _, Sub.refl _, by assumption, ⟨by walk_at "lk", by walk_at "lk", by walk_at "lk", by walk_at "lk", by walk_at "lk"⟩, ⟨t1, by walk_at "lk"⟩, ⟨t2, by walk_at "lk"⟩, ns, ?_, ?_⟩
                · rw [ewon, eno]; exact D10
                · rw [ewon, eno]
            · rintro B10 m10 μ10 s16 hs10 ⟨⟨p1, p2, p3, p4, p5⟩, ⟨t1, p6⟩, ⟨t2, p7⟩, ns, D10, rfl⟩ Y
              have hB10 := hB9.sub hs10
              have hx10 := hs10 _ _ hx9
              have hs310 := (hs38.trans hs9).trans hs10
              have hto10 := hs10 _ _ (hs9 _ _ (hs8 _ _ (hs7' _ _ (hs6 _ _ (hs5 _ _ (hs4 _ _ (hs3 _ _ (hs2 _ _ (hs _ _ hto)))))))))
              have RD := SK.rdy
              have hpl := SK.hpl
              have hh := SK.hrs 7 (by (first | lia | omega))
              have eRun : runStep g ts a.S st = ⟨(wonOf g ts a.S st 7).P.2.foldl (pushStep g ts (wonOf g ts a.S st 7).hours) (popK st.heap), st.log ++ [topOf st], (wonOf g ts a.S st 7).hours, outN (wonOf g ts a.S st 7).P.1 (wonOf g ts a.S st 7).P.2, st.np + (wonOf g ts a.S st 7).P.2.length, (wonOf g ts a.S st 7).nf⟩ := rfl
              rw [eRun] at RI9
              generalize wonOf g ts a.S st 7 = ws at D10 Y RD hpl hh RI9
              walk_at "go"
              refine smeth (f := 99) hB10 (by assumption) hx10 (by walk_at "mem") (by rfl) (by rfl) ?_
              walk_at "go"
              refine ready_c hB10 (hA'.le (by decide)) hx10 D10 (fun q hq => (O.km q).mpr (by have := RD q hq; (first | lia | omega))) (by (first | lia | omega)) (Y.perm (μ' := (dx, SD d (.ref rl) st.np ws.nf) :: (rl, XL IntV ws.P.2) :: (npL ns ++ (hp0, XL (PairB B10) (popK st.heap)) :: (lg, XL (PairB B10) (st.log ++ [topOf st])) :: (hrs, XL OptV ws.hours) :: ν)) (by walk_at "pm")) (fun B11 ns11 tr rvs s18 hs11 hB11 D11 hrv htr X18 => ?_)
              obtain ⟨tc, htr⟩ := htr
              obtain ⟨gvs, hgv, gc, rfl⟩ := id hgx3
              have hrvl := hrv.length
              have hx11 := hs11 _ _ hx10
              have X18 := X18.pairsAt (a := hp0) (xs := popK st.heap) hs11 (by walk_at "set")
              have X18 := X18.pairsAt (a := lg) (xs := st.log ++ [topOf st]) hs11 (by walk_at "set")
              refine it_tuple hA'.handled X18 htr (fun I o s19 T X19 => ?_)
              refine for_x (fun j B' m' μ' => (m' "times" = some (.ref ta) ∧ m' "goals" = some (.ref D') ∧ m' "sorter" = some (.ref x) ∧ m' "heap" = some (.ref hp0) ∧ m' "log" = some (.ref lg)) ∧ (hp0, XL (PairB B') ((ws.P.2.take j).foldl (pushStep g ts ws.hours) (popK st.heap))) :: (lg, XL (PairB B') (st.log ++ [topOf st])) :: (hrs, XL OptV ws.hours) :: (dx, SD d (.ref rl) (st.np + (ws.P.2.length : Int)) ws.nf) :: (rl, XL IntV []) :: (npL ns11 ++ ν) = μ') T (X19.perm (μ' := (I, ItP o) :: (hp0, XL (PairB B11) ((ws.P.2.take 0).foldl (pushStep g ts ws.hours) (popK st.heap))) :: (lg, XL (PairB B11) (st.log ++ [topOf st])) :: (hrs, XL OptV ws.hours) :: (dx, SD d (.ref rl) (st.np + (ws.P.2.length : Int)) ws.nf) :: (rl, XL IntV []) :: (npL ns11 ++ ν)) (by simp only [List.take_zero, List.foldl_nil]; walk_at "pm")) ⟨⟨by walk_at "lk", by walk_at "lk", by walk_at "lk", by walk_at "lk", by walk_at "lk"⟩, rfl⟩ (fun v s' Q' E' hi hq => go_name hq) ?_ ?_
              · rintro i v B12 m12 μ12 o12 s20 E12 hi hv hs12 ⟨⟨p1, p2, p3, p4, p5⟩, rfl⟩ Y Qn qn
                obtain ⟨q, hq, tq, rfl⟩ := hrv.getV hv
                have hB12 := hB11.sub hs12
                have hs312 := (hs310.trans hs11).trans hs12
                obtain ⟨hq0, hq7, hqg, hqr⟩ := RD q (List.mem_of_getElem? hq)
                have hgx12 : XL (ListB B12 IntV) g (W.listOf gvs.toArray gc) := ⟨gvs, hgv.mono fun _ _ q => q.sub hs312 fun _ _ z => z, gc, rfl⟩
                have hgjj : g[q.toNat]? = some (gI g q) := getD_some (by rw [G.gl]; (first | lia | omega))
                have hgjl : (gI g q).length ≤ 7 := nodup_lt7 7 _ (nodup_of_lt (G.gs q hq0 hq7)) (G.gr q hq0 hq7)
                have htj : ts[q.toNat]? = some (tI ts q) := getD_some (by rw [G.tl]; (first | lia | omega))
                have hto12 := hs12 _ _ (hs11 _ _ hto10)
                have hpl := hpl i
                have ek : ws.P.2.take (i + 1) = ws.P.2.take i ++ [q] := by rw [List.take_add_one, hq]; rfl
                obtain ⟨b, hb, _, _⟩ := maxI_spec (xs := (gI g q).map fun r => (wOf ws.hours r).getD 0) (by intro e; exact hqg (List.map_eq_nil_iff.mp e))
                walk_at "go"
                refine comp_p (by assumption) IntV (fun n => ((gI g q).take n).map fun r => (wOf ws.hours r).getD 0) (by rfl) rfl (by decide) ?_
                walk_at "go"
                refine get_x (rel := ListB B12 IntV) (by assumption) (.inl ⟨_, hs312 _ _ hgo3, hgx12⟩) (by (first | lia | omega)) (by (first | lia | omega)) hgjj (fun v hv => ?_)
                obtain ⟨gja, _, rfl, hgja, gjs, hgjs, gjc, rfl⟩ := hv
                refine it_list hA'.handled (by assumption) hgja (fun I2 o2 s21 T2 X21 => ?_)
                refine ⟨I2, _, _, o2, _, _, _, rfl, T2, X21, fun i hi => by simp only [List.length_map, List.length_take]; (first | lia | omega), rfl, ?_, ?_⟩
                · rintro C2 D2 i2 v m2 o3 s22 E2 hi2 hv2 Y2 Qy Qm qy qm
                  obtain ⟨r, hr2, tr2, rfl⟩ := hgjs.getV hv2
                  obtain ⟨hr0, hr7, hrs⟩ := hqr r (List.mem_of_getElem? hr2)
                  have hwr : wOf ws.hours r = ws.hours.getD r.toNat none := by unfold wOf; rw [if_pos hr0]
                  walk_at "go"
                  refine get_x (rel := OptV) (x := ws.hours.getD r.toNat none) (by assumption) (.inr (by walk_at "mem")) (by (first | lia | omega)) (by (first | lia | omega)) (getD_some (by (first | lia | omega))) (fun v hv => ?_)
                  obtain ⟨h, hh2⟩ := Option.isSome_iff_exists.mp hrs
                  rw [← hwr, hh2] at hv
                  obtain ⟨t5, rfl⟩ := hv
                  exact qy _ _ ⟨_, h, by assumption, ⟨t5, rfl⟩, by rw [List.take_add_one, hr2]; simp [hh2]⟩
                · intro D2 s22 Y2
                  have hgl2 := hgjs.length
                  rw [hgl2, List.take_length] at Y2
                  obtain ⟨B13, hs13, ⟨ol, hol, holx⟩, _, Y2⟩ := Y2.freeze
                  have hB13 := hB12.sub hs13
                  walk_at "go"
                  refine nlargest_c (xs := (gI g q).map fun r => (wOf ws.hours r).getD 0) hB13 (hA'.le (by decide)) hol holx hb (by rw [List.length_map]; (first | lia | omega)) (by assumption) (fun D3 s23 X23 => ?_)
                  walk_at "go"
                  refine get_x (rel := IntV) (xs := [b]) (x := b) (by assumption) (.inr (.head _)) (by (first | lia | omega)) (by (first | lia | omega)) rfl (fun v hv => ?_)
                  obtain ⟨t6, rfl⟩ := hv
                  walk_at "go"
                  refine get_x (rel := IntV) (by assumption) (.inl ⟨to, hs13 _ _ hto12, htx⟩) (by (first | lia | omega)) (by (first | lia | omega)) htj (fun v hv => ?_)
                  obtain ⟨t7, rfl⟩ := hv
                  walk_at "go"
                  refine add_c hB13 (hA'.le (by decide)) (by assumption) (fun t8 s24 X24 => ?_)
                  walk_at "go"
                  refine @newPair _ _ _ _ _ _ _ _ _ _ _ _ _ _ _ (by assumption) (by assumption) (fun B14 pr s25 hs14 hB14 hpr14 X25 => ?_)
                  have X25 := X25.pairsAt (a := hp0) (xs := ((ws.P.2.take i).foldl (pushStep g ts ws.hours) (popK st.heap))) (hs13.trans hs14) (by walk_at "set")
                  have X25 := X25.pairsAt (a := lg) (xs := st.log ++ [topOf st]) (hs13.trans hs14) (by walk_at "set")
                  walk_at "go"
                  refine heappush_c (ks := ((ws.P.2.take i).foldl (pushStep g ts ws.hours) (popK st.heap))) (x := (b + tI ts q, q)) hB14 (hA'.le (by decide)) X25 (by (first | lia | omega)) hpr14 (by walk_at "set") (fun s26 X26 => ?_)
                  walk_at "go"
                  have ep : pushK ((ws.P.2.take i).foldl (pushStep g ts ws.hours) (popK st.heap)) (b + tI ts q, q) = ((ws.P.2.take (i + 1)).foldl (pushStep g ts ws.hours) (popK st.heap)) := by
                    rw [ek, List.foldl_append]
                    show _ = pushK _ ((lastOf g ws.hours q).getD 0 + tI ts q, q)
                    unfold lastOf; rw [hb]; rfl
                  rw [ep] at X26
                  refine qn _ _ ⟨B14, _, _, hs13.trans hs14, (X26.perm (μ' := (D3, XL IntV [b]) :: (I, ItP o12) :: (hp0, XL (PairB B14) ((ws.P.2.take (i + 1)).foldl (pushStep g ts ws.hours) (popK st.heap))) :: (lg, XL (PairB B14) (st.log ++ [topOf st])) :: (hrs, XL OptV ws.hours) :: (dx, SD d (.ref rl) (st.np + (ws.P.2.length : Int)) ws.nf) :: (rl, XL IntV []) :: (npL ns11 ++ ν)) (by walk_at "pm")).drop1, ⟨by walk_at "lk", by walk_at "lk", by walk_at "lk", by walk_at "lk", by walk_at "lk"⟩, rfl⟩
              · rintro B12 m12 μ12 s20 hs12 ⟨⟨p1, p2, p3, p4, p5⟩, rfl⟩ Y
                rw [hrvl, List.take_length] at Y
                walk_at "go"
                refine wn (8 - (st.log ++ [topOf st]).length) _ (by simp; (first | lia | omega)) ⟨B12, _, ns11, _, ((hs8.trans hs9).trans hs10).trans (hs11.trans hs12), Y, ⟨by walk_at "lk", by walk_at "lk", by walk_at "lk", by walk_at "lk", by walk_at "lk"⟩, D11.sub hs12, RI9, rfl⟩
end
end text_R12
section text_W4
set_option maxRecDepth 100000
set_option maxHeartbeats 4000000

section
variable {w : World} {A : Around} {E : Value → Shared → Prop} {s : Shared} {R : Shared} {B : BM} {F : List (Addr × NM)} {μ μ' : Led} {Q : Value → Shared → Prop}

theorem moves_c {ps : List (Int × Int)} {pv : Value} (hB : Base (KK w) B) (hA : Cx A 4) (X : St R B F μ s) (hp : ListB B (PairB B) ps pv) (hr : ∀ x ∈ ps, 0 ≤ x.1 ∧ x.1 < 7 ∧ 0 ≤ x.2 ∧ x.2 < 7)
    (k : ∀ B' v s', Sub B B' → ListB B' (ListB B' IntV) (movesOf (boardOf ps)) v → St R B' F μ s' → Q v s') :
    wpAny (model PG w) A (call (.ref 255) [pv]) Q E s := by
  refine call_fnC (binds := [("pairs", pv)]) hB hA X (by rfl) (by rfl) (BindsTo.of_eq rfl) (by rfl) (by decide) fun L A' s₁ hA' hF X₁ En => ?_
  have X₁ : St R B ((L, put (fun _ => none) "pairs" pv) :: F) ((L + 1, IsC none) :: μ) s₁ := X₁
  walk_at "go"
  refine comp_e X₁ (fun _ => AddrV) (by rfl) rfl (by decide) ?_
  walk_at "go"
  refine range_1 (by assumption) (fun r s2 X2 => ?_)
  refine it_range0 hA'.handled X2 (k := 7) (by decide) (fun I o s3 T X3 => ?_)
  refine ⟨fun C i B' m' μ' xs => B = B' ∧ xs.length = i ∧ i ≤ 7 ∧ zl (XL BoolV) xs (List.replicate i (List.replicate 7 false)) ++ ((L + 1, IsC none) :: μ) = μ', I, 7, _, o, B, _, _, rfl, T, X3, fun C i B' m' μ' xs h => by (first | lia | omega), fun _ _ _ _ _ h => h, fun C => ⟨rfl, rfl, by (first | lia | omega), rfl⟩, ?_, ?_⟩
  · rintro C D i v B' m' μ' o' s' E' xs hi ⟨t, rfl⟩ hs ⟨rfl, hl, hi7, rfl⟩ Y Qy Qm qy qm
    walk_at "go"
    refine newLst_ (P := XL BoolV [false]) (by assumption) (fun c => ⟨[.bool false], .cons rfl .nil, c, rfl⟩) (by decide) (fun a s4 X4 => ?_)
    walk_at "go"
    refine mul7 (by assumption) (.head _) (fun a s5 X5 => ?_)
    have X5 := (X5.perm (.swap _ _ _)).drop1
    refine qy _ _ ⟨B, _, _, a, Sub.refl _, X5.perm ?_, ⟨rfl, by simp [hl], by (first | lia | omega), rfl⟩, rfl⟩
    have e : List.replicate (i + 1) (List.replicate 7 false) = List.replicate i (List.replicate 7 false) ++ [List.replicate 7 false] := List.replicate_succ'
    rw [e, zl_snoc (by simp [hl])]
    walk_at "pm"
  · rintro C D B' m' μ' s' as hs ⟨rfl, hl, hi7, rfl⟩ Y
    walk_at "go"
    rename_i s4 X4
    obtain ⟨B₁, hs₁, ⟨oD, hD, hDX⟩, hDB, X4⟩ := X4.freeze
    have hB₁ := hB.sub hs₁
    obtain ⟨pa, po, rfl, hpo, pvs, hpr, pn, rfl⟩ := id hp
    walk_at "go"
    refine it_list hA'.handled X4 (hs₁ _ _ hpo) (fun I o s5 T X5 => ?_)
    have hplen : pvs.length = ps.length := hpr.length
    refine for_x (fun i B' m' μ' => B₁ = B' ∧ zl (XL BoolV) as (boardOf (ps.take i)) ++ (L + 1, IsC (some (.ref D))) :: μ = μ') T X5 ⟨rfl, rfl⟩ (fun v s' Q' E' hi hq => go_tup rfl hi hq) ?_ ?_
    · rintro i v B' m' μ' o' s' E' hi hv hs' ⟨rfl, rfl⟩ Y Qn qn
      obtain ⟨x, hx, hxv⟩ := hpr.getV hv
      obtain ⟨pa, ta, tb, pc, rfl, hpa⟩ := hxv.sub hs₁
      have hxr := hr x (List.mem_of_getElem? hx)
      have hbo := boardOf_ok (ps.take i)
      have e1 : as[x.1.toNat]? = some (as.getD x.1.toNat 0) := getD_some (by (first | lia | omega))
      have e2 : (boardOf (ps.take i))[x.1.toNat]? = some ((boardOf (ps.take i)).getD x.1.toNat []) := getD_some (by rw [hbo.1]; (first | lia | omega))
      have e3 := hbo.2 x.1.toNat (by (first | lia | omega))
      have e4 : boardOf (ps.take (i + 1)) = tog (boardOf (ps.take i)) x := by
        unfold boardOf; rw [List.take_add_one, hx]; simp
      refine assign_tup (vs := [.int x.1 ta, .int x.2 tb]) hA'.handled Y ⟨pc, Y.keep _ _ hpa⟩ (fun s6 X6 => ?_) rfl rfl
      walk_at "go"
      refine get_x (by assumption) (.inl ⟨oD, hD, hDX⟩) (by (first | lia | omega)) (by (first | lia | omega)) e1 (fun v hv => ?_)
      obtain rfl := hv
      walk_at "go"
      refine get_x (by assumption) (rel := BoolV) (x := ((boardOf (ps.take i)).getD x.1.toNat []).getD x.2.toNat false) (.inr (.tail _ (List.mem_append_left _ (zl_mem e1 e2)))) (by (first | lia | omega)) (by (first | lia | omega)) (getD_some (by (first | lia | omega))) (fun v hv => ?_)
      obtain rfl := hv
      walk_at "go"
      refine get_x (by assumption) (.inl ⟨oD, hD, hDX⟩) (by (first | lia | omega)) (by (first | lia | omega)) e1 (fun v hv => ?_)
      obtain rfl := hv
      walk_at "go"
      refine set_x (by assumption) (.tail (zl_set e1 e2)) (rel := BoolV) rfl (by (first | lia | omega)) (by (first | lia | omega)) (by (first | lia | omega)) (fun s7 X7 => ?_)
      walk_at "go"
      exact qn _ _ ⟨B₁, _, _, Sub.refl _, X7, rfl, by rw [e4]; rfl⟩
    · rintro B' m' μ' s' hs' ⟨rfl, rfl⟩ Y
      rw [hplen, List.take_length] at Y
      walk_at "go"
      have hbo := boardOf_ok ps
      refine comp_e Y (fun B' => ListB B' IntV) (by rfl) rfl (by decide) ?_
      walk_at "go"
      refine range_1 (by assumption) (fun r s2 X2 => ?_)
      refine it_range0 hA'.handled X2 (k := 7) (by decide) (fun I o s3 T X3 => ?_)
      refine ⟨fun C i B' m' μ' xs => i ≤ 7 ∧ (List.range i).map (fun p => rowOfBoard (boardOf ps) p 7) = xs ∧ ∃ pv, (C + 1, IsC pv) :: (zl (XL BoolV) as (boardOf ps) ++ (L + 1, IsC (some (.ref D))) :: μ) = μ', I, 7, _, o, B₁, _, _, rfl, T, X3, fun C i B' m' μ' xs h => by rw [← h.2.1]; simp; (first | lia | omega), fun B1 B2 hs y v h => h.sub hs fun _ _ q => q, fun C => ⟨by (first | lia | omega), rfl, none, rfl⟩, ?_, ?_⟩
      · rintro C D' i v B' m' μ' o' s' E' xs hi ⟨t, rfl⟩ hs ⟨hi7, rfl, pv, rfl⟩ Y Qy Qm qy qm
        have hB' := hB₁.sub hs
        have e1 : as[i]? = some (as.getD i 0) := getD_some (by (first | lia | omega))
        have e2 : (boardOf ps)[i]? = some ((boardOf ps).getD i []) := getD_some (by rw [hbo.1]; (first | lia | omega))
        have e3 := hbo.2 i (by (first | lia | omega))
        walk_at "go"
        rename_i s4 X4
        refine comp_p X4 IntV (fun j => rowOfBoard (boardOf ps) i j) (by rfl) rfl (by decide) ?_
        walk_at "go"
        refine range_1 (by assumption) (fun r s2 X2 => ?_)
        refine it_range0 hA'.handled X2 (k := 7) (by decide) (fun I2 o2 s3 T X3 => ?_)
        refine ⟨I2, 7, _, o2, _, _, _, rfl, T, X3, fun j hj => Nat.le_trans (rowOfBoard_len _ _ _) (by (first | lia | omega)), rfl, ?_, ?_⟩
        · rintro C2 D2 j v m2 o3 s5 E2 hj ⟨t, rfl⟩ Y2 Qy Qm qy qm
          walk_at "go"
          refine get_x (by assumption) (.inl ⟨oD, hs _ _ hD, hDX⟩) (by (first | lia | omega)) (by (first | lia | omega)) (by simpa using e1) (fun v hv => ?_)
          obtain rfl := hv
          walk_at "go"
          refine get_x (by assumption) (rel := BoolV) (x := ((boardOf ps).getD i []).getD j false) (.inr (.tail _ (.tail _ (.tail _ (.tail _ (.tail _ (List.mem_append_left _ (zl_mem e1 e2)))))))) (by (first | lia | omega)) (by (first | lia | omega)) (by rw [Int.toNat_natCast]; exact getD_some (by (first | lia | omega))) (fun v hv => ?_)
          obtain rfl := hv
          walk_at "go"
          refine ite_both (fun hc => ?_) fun hc => ?_
          · walk_at "go"
            exact qy _ _ ⟨_, (j : Int), by assumption, ⟨_, rfl⟩, rowOfBoard_yes hc⟩
          · exact qm _ ⟨_, by assumption, rowOfBoard_no hc⟩
        · intro D2 s5 Y2
          obtain ⟨B2, hs2, ⟨o4, ho4, hx4⟩, _, Y2⟩ := Y2.freeze
          refine qy _ _ ⟨B2, _, _, rowOfBoard (boardOf ps) i 7, hs2, Y2, ⟨by (first | lia | omega), ?_, _, rfl⟩, ⟨D2, o4, rfl, ho4, hx4⟩⟩
          rw [List.range_succ]; simp
      · rintro C D' B' m' μ' s' xs hs ⟨hi7, rfl, pv, rfl⟩ Y
        obtain ⟨B2, hs2, ⟨o4, ho4, hx4⟩, _, Y⟩ := Y.freeze
        refine k B2 _ _ ((hs₁.trans hs).trans hs2) ⟨D', o4, rfl, ho4, hx4.mono fun _ _ q => q.sub hs2 fun _ _ z => z⟩ (Y.leave.drop ?_)
        exact .cons _ ((List.Sublist.cons _ (List.Sublist.refl _)).trans (List.sublist_append_right _ _))
end
end text_W4
section text_W5
set_option maxRecDepth 100000
set_option maxHeartbeats 1000000

section
variable {w : World} {A : Around} {E : Value → Shared → Prop} {s : Shared} {R : Shared} {B : BM} {F : List (Addr × NM)} {μ μ' : Led} {Q : Value → Shared → Prop}

noncomputable def LstB (B : BM) (l : Addr) (vs : List Value) : Prop := ∃ o, B l = some o ∧ o.cls = .type "list" ∧ ∃ n, o.data = .seq vs.toArray n
end
section
variable {prog : Program} {w : World} {A : Around} {E : Value → Shared → Prop} {s : Shared} {env : Env} {R : Shared} {B B' : BM} {F : List (Addr × NM)} {μ μ' : Led}
theorem slice_upto2 {value slice : Expr} {l : Addr} {vs : List Value} {ns : List Int} {k : Int} {t : Tok} {Q : Value → Shared → Prop} (X : St R B F μ s) (hl : LstB B l vs) (hi : IntsAre vs ns) (h0 : 0 ≤ k) (hz : ns.length ≤ 1000)
    (h : ∀ a s', St R B F ((a, XL IntV (ns.take k.toNat)) :: μ) s' → Q (.ref a) s')
    (hs : subscripted slice false (.ref l) (.ref s.heap.objs.size) = operate [.ref s.heap.objs.size, .ref l] (getItem (.ref l) (.ref s.heap.objs.size)) := by with_unfolding_all rfl)
    (ht : ∀ r, letTemporaryGo value (.ref l) r = pure () := by intro _; with_unfolding_all rfl) :
    wpAny (model prog w) A (subscriptTail value slice (.ref l) (.ref s.heap.objs.size)) Q E { s with heap := s.heap.push { cls := .type "slice", data := .fields #[.none, .int k t, .none] } } := by
  obtain ⟨ol, hb, hc, nl, hd⟩ := hl
  have hlen := hi.length
  refine slice_listK ⟨ol, X.keep _ _ hb, hc, nl, hd⟩ .none (.int k t) ?_ hs ht (by rw [sizeLine_eq, List.size_toArray]; (first | lia | omega))
  have Y := X.grow (h' := s.heap.push { cls := .type "slice", data := .fields #[.none, .int k t, .none] }) (tk := s.toks) fun b o e => Heap.get?_push_of_some _ e
  have Z := Y.new (tk := s.toks) (o := { cls := .type "list", data := .seq (slicePick vs.toArray none (some k) none) }) (P := XL IntV (ns.take k.toNat)) ⟨_, all2_ints (slice_ints_uptoW hi h0), 0, by simp⟩
  have hsz : (s.heap.push { cls := .type "slice", data := .fields #[.none, .int k t, .none] }).objs.size = s.heap.objs.size + 1 := Heap.size_push ..
  rw [show ({ s with heap := s.heap.push { cls := .type "slice", data := .fields #[.none, .int k t, .none] }, toks := s.toks } : Shared).heap.objs.size = s.heap.objs.size + 1 from hsz] at Z
  exact h _ _ Z
end
section
variable {w : World} {A : Around} {E : Value → Shared → Prop} {s : Shared} {R : Shared} {B B' : BM} {F : List (Addr × NM)} {μ μ' : Led} {Q : Value → Shared → Prop}

theorem drawn_c {l : Addr} {vs : List Value} {ns : List Int} (hB : Base (KK w) B) (hA : Cx A 4) (X : St R B F μ s) (hl : LstB B l vs) (hi : IntsAre vs ns) (hz : ns.length ≤ 63)
    (k : ∀ B' a tv pv s', Sub B B' → TupB B' a [tv, pv] → ListB B' IntV (timesOf ns) tv → ListB B' (PairB B') (pairsOf ns) pv → St R B' F μ s' → Q (.ref a) s') :
    wpAny (model PG w) A (call (.ref 250) [.ref l]) Q E s := by
  refine call_fnC (binds := [("script", .ref l)]) hB hA X (by rfl) (by rfl) (BindsTo.of_eq rfl) (by rfl) (by decide) fun L A' s₁ hA' hF X₁ En => ?_
  have X₁ : St R B ((L, put (fun _ => none) "script" (.ref l)) :: F) ((L + 1, IsC none) :: μ) s₁ := X₁
  walk_at "go"
  refine comp_p X₁ IntV (fun j => ((ns.take 63).take j).map fun x => x.fmod 1000000) (by rfl) rfl (by decide) ?_
  walk_at "go"
  refine wpAny_Slice (wpAny_evalPart_none (wpAny_evalPart_some ?_))
  walk_at "go"
  refine wpAny_evalPart_none ?_
  refine slice_upto2 (by assumption) hl hi (by decide) (by (first | lia | omega)) (fun a s2 X2 => ?_)
  obtain ⟨B₁, hs₁, ⟨oa, ha, vs₁, hv₁, c₁, rfl⟩, _, X2⟩ := X2.freeze
  have hB₁ := hB.sub hs₁
  have hlen₁ : vs₁.length = (ns.take 63).length := hv₁.length
  have h63 : (ns.take 63).length ≤ 63 := by simp; (first | lia | omega)
  refine it_list hA'.handled X2 ha (fun I o s3 T X3 => ?_)
  refine ⟨I, _, _, o, _, B₁, _, rfl, T, X3, fun i hi => by simp; (first | lia | omega), rfl, ?_, ?_⟩
  · intro C D i v m' o' s' E' hi hv Y Qy Qm qy qm
    obtain ⟨x, hx, t, rfl⟩ := hv₁.getV hv
    have hx : (ns.take 63)[i]? = some x := hx
    walk_at "go"
    refine b_mod (by assumption) (by decide) (fun _ _ _ => ?_)
    refine qy _ _ ⟨_, x.fmod 1000000, by assumption, ⟨_, rfl⟩, ?_⟩
    rw [List.take_add_one, hx]; simp
  · intro D s' Y
    rw [hlen₁, List.take_length] at Y
    walk_at "go"
    rename_i s4 X4
    obtain ⟨B₂, hs₂, ⟨oD, hD, hDX⟩, _, X4⟩ := X4.freeze
    have hB₂ := hB₁.sub hs₂
    have hrow : XL IntV (rowOf ns) oD := hDX
    have hrl : (rowOf ns).length ≤ 63 := by unfold rowOf; simp; (first | lia | omega)
    refine comp_pa X4 IntV (fun j => (List.range j).map fun p => timeAt (rowOf ns) p) (by rfl) (by rfl) rfl (by decide) (by rfl) rfl ?_
    walk_at "go"
    refine range_1 (by assumption) (fun r s2 X2 => ?_)
    refine it_range0 hA'.handled X2 (k := 7) (by decide) (fun I o s3 T X3 => ?_)
    refine ⟨I, 7, _, o, _, B₂, _, rfl, T, X3, fun i hi => by simp; (first | lia | omega), rfl, ?_, ?_⟩
    · rintro C D i v m' o' s' E' hi ⟨t, rfl⟩ Y Qy Qm qy qm
      walk_at "go"
      refine len_x (rel := IntV) (by assumption) (.inl ⟨oD, hD, hrow⟩) (by (first | lia | omega)) (fun _ _ _ => ?_)
      walk_at "go"
      refine ite_both (fun hc => ?_) fun hc => ?_
      · have hc : i < (rowOf ns).length := by simpa using hc
        walk_at "go"
        refine get_x (rel := IntV) (by assumption) (.inl ⟨oD, hD, hrow⟩) (by (first | lia | omega)) (by (first | lia | omega)) (x := (rowOf ns).getD i 0) (by rw [Int.toNat_natCast]; exact getD_some hc) (fun v hv => ?_)
        obtain ⟨t2, rfl⟩ := hv
        walk_at "go"
        refine b_mod (by assumption) (by decide) (fun _ _ _ => ?_)
        walk_at "go"
        exact qy _ _ ⟨_, timeAt (rowOf ns) i, by assumption, ⟨_, rfl⟩, by rw [List.range_succ]; simp⟩
      · have hc : ¬ i < (rowOf ns).length := by simpa using hc
        walk_at "go"
        refine b_mod (by assumption) (by decide) (fun _ _ _ => ?_)
        walk_at "go"
        have e : timeAt (rowOf ns) i = 1 + ((i : Int) + 0).fmod 3 := by
          unfold timeAt
          rw [List.getD_eq_getElem?_getD, List.getElem?_eq_none (by (first | lia | omega))]
          rfl
        exact qy _ _ ⟨_, timeAt (rowOf ns) i, by assumption, ⟨_, by rw [e]⟩, by rw [List.range_succ]; simp⟩
    · intro D' s' Y
      have Y : St R B₂ ((L, put (put (fun _ => none) "script" (.ref l)) "times" (.ref D')) :: F) ((D', XL IntV (timesOf ns)) :: (L + 1, IsC (some (.ref D))) :: μ) s' := Y
      walk_at "go"
      refine @newPair _ _ _ _ _ _ _ _ _ _ _ _ _ _ _ (by assumption) (by assumption) (fun G1 p1 z1 hg1 hG1 q1 Z1 => ?_)
      walk_at "go"
      refine @newPair _ _ _ _ _ _ _ _ _ _ _ _ _ _ _ (by assumption) (by assumption) (fun G2 p2 z2 hg2 hG2 q2 Z2 => ?_)
      have q1 := q1.sub hg2
      walk_at "go"
      refine @newPair _ _ _ _ _ _ _ _ _ _ _ _ _ _ _ (by assumption) (by assumption) (fun G3 p3 z3 hg3 hG3 q3 Z3 => ?_)
      have q1 := q1.sub hg3
      have q2 := q2.sub hg3
      walk_at "go"
      refine @newPair _ _ _ _ _ _ _ _ _ _ _ _ _ _ _ (by assumption) (by assumption) (fun G4 p4 z4 hg4 hG4 q4 Z4 => ?_)
      have q1 := q1.sub hg4
      have q2 := q2.sub hg4
      have q3 := q3.sub hg4
      walk_at "go"
      refine @newPair _ _ _ _ _ _ _ _ _ _ _ _ _ _ _ (by assumption) (by assumption) (fun G5 p5 z5 hg5 hG5 q5 Z5 => ?_)
      have q1 := q1.sub hg5
      have q2 := q2.sub hg5
      have q3 := q3.sub hg5
      have q4 := q4.sub hg5
      walk_at "go"
      refine @newPair _ _ _ _ _ _ _ _ _ _ _ _ _ _ _ (by assumption) (by assumption) (fun G6 p6 z6 hg6 hG6 q6 Z6 => ?_)
      have q1 := q1.sub hg6
      have q2 := q2.sub hg6
      have q3 := q3.sub hg6
      have q4 := q4.sub hg6
      have q5 := q5.sub hg6
      walk_at "go"
      refine @newPair _ _ _ _ _ _ _ _ _ _ _ _ _ _ _ (by assumption) (by assumption) (fun G7 p7 z7 hg7 hG7 q7 Z7 => ?_)
      have q1 := q1.sub hg7
      have q2 := q2.sub hg7
      have q3 := q3.sub hg7
      have q4 := q4.sub hg7
      have q5 := q5.sub hg7
      have q6 := q6.sub hg7
      walk_at "go"
      refine @newPair _ _ _ _ _ _ _ _ _ _ _ _ _ _ _ (by assumption) (by assumption) (fun G8 p8 z8 hg8 hG8 q8 Z8 => ?_)
      have q1 := q1.sub hg8
      have q2 := q2.sub hg8
      have q3 := q3.sub hg8
      have q4 := q4.sub hg8
      have q5 := q5.sub hg8
      have q6 := q6.sub hg8
      have q7 := q7.sub hg8
      walk_at "go"
      refine @newPair _ _ _ _ _ _ _ _ _ _ _ _ _ _ _ (by assumption) (by assumption) (fun G9 p9 z9 hg9 hG9 q9 Z9 => ?_)
      have q1 := q1.sub hg9
      have q2 := q2.sub hg9
      have q3 := q3.sub hg9
      have q4 := q4.sub hg9
      have q5 := q5.sub hg9
      have q6 := q6.sub hg9
      have q7 := q7.sub hg9
      have q8 := q8.sub hg9
      have hG : Sub B₂ G9 := ((((((((hg1.trans hg2).trans hg3).trans hg4).trans hg5).trans hg6).trans hg7).trans hg8).trans hg9)
      walk_at "go"
      refine @newLst_ _ _ _ _ _ _ _ _ _ _ _ (XL (PairB G9) pairs0) (by assumption) (fun c => ⟨_, .cons q1 (.cons q2 (.cons q3 (.cons q4 (.cons q5 (.cons q6 (.cons q7 (.cons q8 (.cons q9 .nil)))))))), c, rfl⟩) (by simp) (fun pa s5 X5 => ?_)
      walk_at "go"
      rename_i s6 X6
      obtain ⟨rvs, hrv, rc, rfl⟩ := id hrow
      have hrvl : rvs.length = (rowOf ns).length := hrv.length
      refine comp_e X6 (fun B' => PairB B') (by rfl) rfl (by decide) ?_
      walk_at "go"
      refine it_list hA'.handled (by assumption) (hG _ _ hD) (fun I o s7 T X7 => ?_)
      refine ⟨fun C i B' m' μ' xs => ((rowOf ns).take i).map pairOfX = xs ∧ (pa, XL (PairB G9) pairs0) :: (D', XL IntV (timesOf ns)) :: (L + 1, IsC (some (.ref D))) :: μ = μ', I, _, _, o, G9, _, _, rfl, T, X7, fun C i B' m' μ' xs h => by rw [← h.1]; simp; (first | lia | omega), fun B1 B2 hs y v h => h.sub hs, fun C => ⟨rfl, rfl⟩, ?_, ?_⟩
      · rintro C D2 i v B' m' μ' o' s' E' xs hi hv hs ⟨rfl, rfl⟩ Y Qy Qm qy qm
        have hB' := hG9.sub hs
        obtain ⟨x, hx, t, rfl⟩ := hrv.getV hv
        walk_at "go"
        refine b_fdiv (by assumption) (by decide) (by decide) (fun _ _ _ => ?_)
        walk_at "go"
        refine b_mod (by assumption) (by decide) (fun _ _ _ => ?_)
        walk_at "go"
        refine b_mod (by assumption) (by decide) (fun _ _ _ => ?_)
        walk_at "go"
        refine newPair (by assumption) (by assumption) (fun B2 p s8 hs2 hB2 hp X8 => ?_)
        refine qy _ _ ⟨B2, _, _, pairOfX x, hs2, X8, ⟨?_, rfl⟩, hp⟩
        rw [List.take_add_one, hx]; simp
      · rintro C D2 B' m' μ' s' xs hs ⟨rfl, rfl⟩ Y
        rw [hrvl, List.take_length] at Y
        have Y := (Y.perm (.swap _ _ _)).weak1 (P' := XL (PairB B') pairs0) (fun o h => h.mono fun _ _ q => q.sub hs)
        refine add_l Y (.inr (.head _)) (.inr (.tail _ (.head _))) (by simp [pairs0]; (first | lia | omega)) (fun a s8 X8 => ?_)
        obtain ⟨B3, hs3, ⟨o3, ho3, hx3⟩, _, X8⟩ := X8.freeze
        have X8 := X8.drop1.drop1
        obtain ⟨B4, hs4, ⟨o4, ho4, hx4⟩, _, X8⟩ := X8.freeze
        walk_at "go"
        refine newTup_ (P := IsT [.ref D', .ref a]) X8 (fun n => ⟨n, rfl⟩) (by simp) (fun t s9 X9 => ?_)
        obtain ⟨B5, hs5, ⟨o5, ho5, n5, rfl⟩, _, X9⟩ := X9.freeze
        walk_at "go"
        refine k B5 t (.ref D') (.ref a) s9 ((((((hs₁.trans hs₂).trans hG).trans hs).trans hs3).trans hs4).trans hs5) ⟨n5, ho5⟩ ⟨D', o4, rfl, hs5 _ _ ho4, hx4⟩ ⟨a, o3, rfl, hs5 _ _ (hs4 _ _ ho3), hx3.mono fun _ _ q => ((q.sub hs3).sub hs4).sub hs5⟩ X9.leave.drop1
end
end text_W5
section text_W6
set_option maxRecDepth 100000
set_option maxHeartbeats 4000000

section
variable {w : World} {A : Around} {E : Value → Shared → Prop} {s : Shared} {R : Shared} {B : BM} {F : List (Addr × NM)} {μ μ' : Led} {Q : Value → Shared → Prop}

noncomputable def firstI (T : List (List Bool)) (p : Nat) : Option Int := minI (hoursIn T p 22)
noncomputable def firstsOf (mv : List (List Int)) (ts : List Int) : List (List (Option Int)) := [(List.range 7).map fun p => firstI (tabs mv ts 22).1 p, (List.range 7).map fun p => firstI (tabs mv ts 22).2 p]
theorem hours_c {mv : List (List Int)} {ts : List Int} {mr tr : Value} (hB : Base (KK w) B) (hA : Cx A 5) (X : St R B F μ s) (hm : ListB B (ListB B IntV) mv mr) (ht : ListB B IntV ts tr)
    (hm7 : mv.length = 7) (hmr : ∀ p, p < 7 → (mv.getD p []).length ≤ 7 ∧ ∀ q ∈ mv.getD p [], 0 ≤ q ∧ q < 7) (ht7 : ts.length = 7) (htr : ∀ p, p < 7 → 1 ≤ ts.getD p 0)
    (k : ∀ B' v s', Sub B B' → ListB B' (ListB B' OptV) (firstsOf mv ts) v → St R B' F μ s' → Q v s') :
    wpAny (model PG w) A (call (.ref 260) [mr, tr]) Q E s := by
  refine call_fnC (binds := [("moves", mr), ("times", tr)]) hB hA X (by rfl) (by rfl) (BindsTo.of_eq rfl) (by rfl) (by decide) fun L A' s₁ hA' hF X₁ En => ?_
  have X₁ : St R B ((L, put (put (fun _ => none) "moves" mr) "times" tr) :: F) ((L + 4, IsC none) :: (L + 3, IsC none) :: (L + 2, IsC none) :: (L + 1, IsC none) :: μ) s₁ := X₁
  obtain ⟨ma, mo, rfl, hmo, hmx⟩ := id hm
  obtain ⟨ta, to, rfl, hto, htx⟩ := id ht
  walk_at "go"
  refine newLst_ (P := XL (ListB B BoolV) []) (by assumption) (fun c => ⟨[], .nil, c, rfl⟩) (by decide) (fun la s2 X2 => ?_)
  walk_at "go"
  refine newLst_ (P := XL (ListB B BoolV) []) (by assumption) (fun c => ⟨[], .nil, c, rfl⟩) (by decide) (fun wa s3 X3 => ?_)
  walk_at "go"
  refine range_1 (by assumption) (fun r s2 X2 => ?_)
  refine it_range0 hA'.handled X2 (k := 22) (by decide) (fun I o s4 T X4 => ?_)
  refine for_x (fun i B' m' μ' => m' "moves" = some (.ref ma) ∧ m' "times" = some (.ref ta) ∧ ∃ bk, (la, XL (ListB B' BoolV) (tabs mv ts i).1) :: (wa, XL (ListB B' BoolV) (tabs mv ts i).2) :: (L + 4, IsC none) :: (L + 3, IsC bk) :: (L + 2, IsC (some (.ref wa))) :: (L + 1, IsC (some (.ref la))) :: μ = μ') T (X4.perm (μ' := (I, ItP o) :: (la, XL (ListB B BoolV) []) :: (wa, XL (ListB B BoolV) []) :: (L + 4, IsC none) :: (L + 3, IsC none) :: (L + 2, IsC (some (.ref wa))) :: (L + 1, IsC (some (.ref la))) :: μ) (by walk_at "pm")) ⟨by walk_at "lk", by walk_at "lk", none, rfl⟩ (fun v s' Q' E' hi hq => go_name hq) ?_ ?_
  · rintro i v B' m' μ' o' s' E' hi ⟨t, rfl⟩ hs ⟨m1, m2, bk, rfl⟩ Y Qn qn
    have hB' := hB.sub hs
    walk_at "go"
    refine newLst_ (P := XL BoolV []) (by assumption) (fun c => ⟨[], .nil, c, rfl⟩) (by decide) (fun lr s5 X5 => ?_)
    walk_at "go"
    refine newLst_ (P := XL BoolV []) (by assumption) (fun c => ⟨[], .nil, c, rfl⟩) (by decide) (fun wr s6 X6 => ?_)
    walk_at "go"
    refine range_1 (by assumption) (fun r s2 X7 => ?_)
    refine it_range0 hA'.handled X7 (k := 7) (by decide) (fun I2 o2 s8 T2 X8 => ?_)
    have hsm : B' ma = some mo := hs _ _ hmo
    have hst : B' ta = some to := hs _ _ hto
    have hmx' : XL (ListB B' IntV) mv mo := hmx.mono fun _ _ q => q.sub hs fun _ _ z => z
    have hlen := tabs_len mv ts i
    refine for_x (fun j B2 m' μ' => B' = B2 ∧ m' "moves" = some (.ref ma) ∧ m' "times" = some (.ref ta) ∧ m' "hour" = some (.int i t) ∧ m' "lost_row" = some (.ref lr) ∧ m' "won_row" = some (.ref wr) ∧ ∃ bk, (wr, XL BoolV ((List.range j).map fun p => wonAt mv ts (tabs mv ts i).1 i p)) :: (lr, XL BoolV ((List.range j).map fun p => lostAt mv ts (tabs mv ts i).2 i p)) :: (I, ItP o') :: (la, XL (ListB B' BoolV) (tabs mv ts i).1) :: (wa, XL (ListB B' BoolV) (tabs mv ts i).2) :: (L + 4, IsC none) :: (L + 3, IsC bk) :: (L + 2, IsC (some (.ref wa))) :: (L + 1, IsC (some (.ref la))) :: μ = μ') T2 X8 ⟨rfl, by walk_at "lk", by walk_at "lk", by walk_at "lk", by walk_at "lk", by walk_at "lk", bk, rfl⟩ (fun v s' Q' E' hi hq => go_name hq) ?_ ?_
    · rintro j v B2 m' μ' o3 s' E2 hj ⟨t3, rfl⟩ hs2 ⟨rfl, m1, m2, m3, m4, m5, bk, rfl⟩ Y Qn qn
      have hmj := hmr j hj
      have htj := htr j hj
      have et : ts[j]? = some (ts.getD j 0) := getD_some (by (first | lia | omega))
      have em : mv[j]? = some (mv.getD j []) := getD_some (by (first | lia | omega))
      walk_at "go"
      refine get_x (rel := IntV) (by assumption) (.inl ⟨to, hst, htx⟩) (by (first | lia | omega)) (by (first | lia | omega)) (x := ts.getD j 0) (by simpa using et) (fun v hv => ?_)
      obtain ⟨t4, rfl⟩ := hv
      walk_at "go"
      refine meth_x (rel := BoolV) (by assumption) (.inr (by walk_at "mem")) PySem.F.slot_list_append rfl ?_
      refine cw_b (spliced_more ?_)
      refine mid_v (by assumption) (.bool (lostAt mv ts (tabs mv ts i).2 i j)) ?_ (fun s9 X9 => ?_)
      · walk_at "go"
        refine get_x (rel := ListB B' IntV) (by assumption) (.inl ⟨mo, hsm, hmx'⟩) (by (first | lia | omega)) (by (first | lia | omega)) (x := mv.getD j []) (by simpa using em) (fun v hv => ?_)
        obtain ⟨ra, ro, rfl, hro, hrx⟩ := hv
        walk_at "go"
        refine newLst_ (P := XL IntV []) (by assumption) (fun c => ⟨[], .nil, c, rfl⟩) (by decide) (fun ea s10 X10 => ?_)
        refine eq_x dInt hA' X10 (.inl ⟨ro, hro, hrx⟩) (.inr (.head _)) ?_
        have X10 := X10.drop1
        walk_at "go"
        refine ite_both (fun hc => ?_) fun hc => ?_
        · exact ⟨by unfold lostAt; rw [hc]; rfl, X10⟩
        walk_at "go"
        refine ite_both (fun hd => ?_) fun hd => ?_
        · have hd' : (i : Int) - ts.getD j 0 ≥ 0 := by simpa using hd
          walk_at "go"
          rename_i s11 X11
          refine comp_p X11 BoolV (fun n => ((mv.getD j []).take n).map fun q => ((tabs mv ts i).2.getD ((i : Int) - ts.getD j 0).toNat []).getD q.toNat false) (by rfl) rfl (by decide) ?_
          walk_at "go"
          refine get_x (rel := ListB B' IntV) (by assumption) (.inl ⟨mo, hsm, hmx'⟩) (by (first | lia | omega)) (by (first | lia | omega)) (x := mv.getD j []) (by simpa using em) (fun v hv => ?_)
          obtain ⟨ra, ro, rfl, hro, rvs, hrv, rc, rfl⟩ := hv
          have hrvl := hrv.length
          refine it_list hA'.handled (by assumption) hro (fun I3 o4 s12 T3 X12 => ?_)
          refine ⟨I3, _, _, o4, _, B', _, rfl, T3, X12, fun n hn => by simp; (first | lia | omega), rfl, ?_, ?_⟩
          · intro C D n v mc o5 s' E' hn hv Y Qy Qm qy qm
            obtain ⟨q, hq, tq, rfl⟩ := hrv.getV hv
            have hqr := hmj.2 q (List.mem_of_getElem? hq)
            walk_at "go"
            refine get_x (rel := ListB B' BoolV) (by assumption) (.inr (by walk_at "mem")) (by (first | lia | omega)) (by (first | lia | omega)) (x := (tabs mv ts i).2.getD ((i : Int) - ts.getD j 0).toNat []) (getD_some (by (first | lia | omega))) (fun v hv => ?_)
            obtain ⟨wa2, wo, rfl, hwo, hwx⟩ := hv
            walk_at "go"
            refine get_x (rel := BoolV) (by assumption) (.inl ⟨wo, hwo, hwx⟩) (by (first | lia | omega)) (by (first | lia | omega)) (x := ((tabs mv ts i).2.getD ((i : Int) - ts.getD j 0).toNat []).getD q.toNat false) (getD_some (by have := (tabs_row mv ts i ((i : Int) - ts.getD j 0).toNat (by (first | lia | omega))).2; (first | lia | omega))) (fun v hv => ?_)
            obtain rfl := hv
            refine qy _ _ ⟨_, _, by assumption, rfl, ?_⟩
            rw [List.take_add_one, hq]; simp
          · intro D s' Y
            rw [hrvl, List.take_length] at Y
            refine notIn_x (x := false) dBool hA' Y (.inr (.head _)) rfl ?_
            refine ⟨?_, Y.drop1⟩
            unfold lostAt; simp only [Bool.not_eq_true] at hc; rw [hc, hd]; rfl
        · exact ⟨by unfold lostAt; simp only [Bool.not_eq_true] at hc hd; rw [hc, hd]; rfl, by assumption⟩
      walk_at "go"
      refine append_x X9 (by walk_at "set") (rel := BoolV) (x := lostAt mv ts (tabs mv ts i).2 i j) rfl (by simp; (first | lia | omega)) (fun s10 X10 => ?_)
      walk_at "go"
      refine meth_x (rel := BoolV) (by assumption) (.inr (by walk_at "mem")) PySem.F.slot_list_append rfl ?_
      refine cw_b (spliced_more ?_)
      refine mid_v (by assumption) (.bool (wonAt mv ts (tabs mv ts i).1 i j)) ?_ (fun s11 X11 => ?_)
      · walk_at "go"
        refine ite_both (fun hd => ?_) fun hd => ?_
        · have hd' : (i : Int) - ts.getD j 0 ≥ 0 := by simpa using hd
          walk_at "go"
          rename_i s11 X11
          refine comp_p X11 BoolV (fun n => ((mv.getD j []).take n).map fun q => ((tabs mv ts i).1.getD ((i : Int) - ts.getD j 0).toNat []).getD q.toNat false) (by rfl) rfl (by decide) ?_
          walk_at "go"
          refine get_x (rel := ListB B' IntV) (by assumption) (.inl ⟨mo, hsm, hmx'⟩) (by (first | lia | omega)) (by (first | lia | omega)) (x := mv.getD j []) (by simpa using em) (fun v hv => ?_)
          obtain ⟨ra, ro, rfl, hro, rvs, hrv, rc, rfl⟩ := hv
          have hrvl := hrv.length
          refine it_list hA'.handled (by assumption) hro (fun I3 o4 s12 T3 X12 => ?_)
          refine ⟨I3, _, _, o4, _, B', _, rfl, T3, X12, fun n hn => by simp; (first | lia | omega), rfl, ?_, ?_⟩
          · intro C D n v mc o5 s' E' hn hv Y Qy Qm qy qm
            obtain ⟨q, hq, tq, rfl⟩ := hrv.getV hv
            have hqr := hmj.2 q (List.mem_of_getElem? hq)
            walk_at "go"
            refine get_x (rel := ListB B' BoolV) (by assumption) (.inr (by walk_at "mem")) (by (first | lia | omega)) (by (first | lia | omega)) (x := (tabs mv ts i).1.getD ((i : Int) - ts.getD j 0).toNat []) (getD_some (by (first | lia | omega))) (fun v hv => ?_)
            obtain ⟨wa2, wo, rfl, hwo, hwx⟩ := hv
            walk_at "go"
            refine get_x (rel := BoolV) (by assumption) (.inl ⟨wo, hwo, hwx⟩) (by (first | lia | omega)) (by (first | lia | omega)) (x := ((tabs mv ts i).1.getD ((i : Int) - ts.getD j 0).toNat []).getD q.toNat false) (getD_some (by have := (tabs_row mv ts i ((i : Int) - ts.getD j 0).toNat (by (first | lia | omega))).1; (first | lia | omega))) (fun v hv => ?_)
            obtain rfl := hv
            refine qy _ _ ⟨_, _, by assumption, rfl, ?_⟩
            rw [List.take_add_one, hq]; simp
          · intro D s' Y
            rw [hrvl, List.take_length] at Y
            refine in_x (x := true) dBool hA' Y (.inr (.head _)) rfl ?_
            refine ⟨?_, Y.drop1⟩
            unfold wonAt; rw [hd]; rfl
        · exact ⟨by unfold wonAt; simp only [Bool.not_eq_true] at hd; rw [hd]; rfl, by assumption⟩
      walk_at "go"
      refine append_x X11 (by walk_at "set") (rel := BoolV) (x := wonAt mv ts (tabs mv ts i).1 i j) rfl (by simp; (first | lia | omega)) (fun s12 X12 => ?_)
      walk_at "go"
      refine qn _ _ ⟨B', _, _, Sub.refl _, X12, rfl, by walk_at "lk", by walk_at "lk", by walk_at "lk", by walk_at "lk", by walk_at "lk", ?_⟩
      simp only [List.range_succ, List.map_append, List.map_cons, List.map_nil]
      exact ⟨_, rfl⟩
    · rintro B2 m' μ' s' hs2 ⟨rfl, m1, m2, m3, m4, m5, bk, rfl⟩ Y
      have Y := Y.perm (.swap _ _ _)
      obtain ⟨B3, hs3, ⟨o3, ho3, hx3⟩, _, Y⟩ := Y.freeze
      obtain ⟨B4, hs4, ⟨o4, ho4, hx4⟩, _, Y⟩ := Y.freeze
      have hs34 := hs3.trans hs4
      have hB4 := hB'.sub hs34
      have Y := (Y.perm (.swap _ _ _)).weak1 (P' := XL (ListB B4 BoolV) (tabs mv ts i).1) (fun o h => h.mono fun _ _ q => q.sub hs34 fun _ _ z => z)
      have Y := Y.perm (μ' := (wa, XL (ListB B' BoolV) (tabs mv ts i).2) :: (I, ItP o') :: (la, XL (ListB B4 BoolV) (tabs mv ts i).1) :: (L + 4, IsC none) :: (L + 3, IsC bk) :: (L + 2, IsC (some (.ref wa))) :: (L + 1, IsC (some (.ref la))) :: μ) (by walk_at "pm")
      have Y := Y.weak1 (P' := XL (ListB B4 BoolV) (tabs mv ts i).2) (fun o h => h.mono fun _ _ q => q.sub hs34 fun _ _ z => z)
      have Y := Y.perm (μ' := (I, ItP o') :: (la, XL (ListB B4 BoolV) (tabs mv ts i).1) :: (wa, XL (ListB B4 BoolV) (tabs mv ts i).2) :: (L + 4, IsC none) :: (L + 3, IsC bk) :: (L + 2, IsC (some (.ref wa))) :: (L + 1, IsC (some (.ref la))) :: μ) (by walk_at "pm")
      walk_at "go"
      refine meth_x (rel := ListB B4 BoolV) (by assumption) (.inr (by walk_at "mem")) PySem.F.slot_list_append rfl ?_
      walk_at "go"
      refine append_x (by assumption) (by walk_at "set") (rel := ListB B4 BoolV) (x := (List.range 7).map fun p => lostAt mv ts (tabs mv ts i).2 i p) ⟨lr, o3, rfl, hs4 _ _ ho3, hx3⟩ (by (first | lia | omega)) (fun s10 X10 => ?_)
      walk_at "go"
      refine meth_x (rel := ListB B4 BoolV) (by assumption) (.inr (by walk_at "mem")) PySem.F.slot_list_append rfl ?_
      walk_at "go"
      refine append_x (by assumption) (by walk_at "set") (rel := ListB B4 BoolV) (x := (List.range 7).map fun p => wonAt mv ts (tabs mv ts i).1 i p) ⟨wr, o4, rfl, ho4, hx4⟩ (by (first | lia | omega)) (fun s11 X11 => ?_)
      walk_at "go"
      exact qn _ _ ⟨B4, _, _, hs34, X11, by walk_at "lk", by walk_at "lk", bk, rfl⟩
  · rintro B' m' μ' s' hs ⟨m1, m2, bk, rfl⟩ Y
    have hB' := hB.sub hs
    obtain ⟨B1, hs1, ⟨lo, hlo, hlx⟩, _, Y⟩ := Y.freeze
    obtain ⟨B2, hs2, ⟨wo, hwo, hwx⟩, _, Y⟩ := Y.freeze
    have hlen := tabs_len mv ts 22
    have hlo := hs2 _ _ hlo
    have hlx : XL (ListB B2 BoolV) (tabs mv ts 22).1 lo := hlx.mono fun _ _ q => q.sub (hs1.trans hs2) fun _ _ z => z
    have hwx : XL (ListB B2 BoolV) (tabs mv ts 22).2 wo := hwx.mono fun _ _ q => q.sub (hs1.trans hs2) fun _ _ z => z
    have hB2 := (hB'.sub hs1).sub hs2
    walk_at "go"
    refine newLst_ (P := XL (ListB B2 OptV) []) (by assumption) (fun c => ⟨[], .nil, c, rfl⟩) (by decide) (fun fa s5 X5 => ?_)
    walk_at "go"
    refine newTup_ (P := IsT [.ref la, .ref wa]) (by assumption) (fun n => ⟨n, rfl⟩) (by simp) (fun tu s6 X6 => ?_)
    obtain ⟨B3, hs3, ⟨_, htu, n5, rfl⟩, _, X6⟩ := X6.freeze
    have hB3 := hB2.sub hs3
    have X6 := X6.weak1 (P' := XL (ListB B3 OptV) []) (fun o h => h.mono fun _ _ q => q.sub hs3 fun _ _ z => z)
    refine it_tuple hA'.handled X6 htu (fun I o s7 T X7 => ?_)
    refine for_x (fun j B' m' μ' => m' "firsts" = some (.ref fa) ∧ ∃ tv, (fa, XL (ListB B' OptV) ((firstsOf mv ts).take j)) :: (L + 4, IsC tv) :: (L + 3, IsC bk) :: (L + 2, IsC (some (.ref wa))) :: (L + 1, IsC (some (.ref la))) :: μ = μ') T X7 ⟨by walk_at "lk", none, rfl⟩ (fun v s' Q' E' hi hq => go_name hq) ?_ ?_
    · rintro j v B4 m4 μ4 o4 s4 E4 hj hv hs4 ⟨m4f, tv, rfl⟩ Y4 Qn qn
      have hB4 := hB3.sub hs4
      have hs34 := hs3.trans hs4
      obtain ⟨tA, tO, Tb, rfl, htO, hTb, hTl, hTr, hTf⟩ : ∃ tA tO Tb, v = .ref tA ∧ B4 tA = some tO ∧ XL (ListB B4 BoolV) Tb tO ∧ Tb.length = 22 ∧ (∀ h, h < 22 → (Tb.getD h []).length = 7) ∧ (firstsOf mv ts)[j]? = some ((List.range 7).map fun p => firstI Tb p) := by
        match j, hv, hj with
        | 0, hv, _ => exact ⟨la, lo, (tabs mv ts 22).1, by simpa using hv.symm, hs34 _ _ hlo, hlx.mono fun _ _ q => q.sub hs34 fun _ _ z => z, hlen.1, fun h hh => (tabs_row mv ts 22 h hh).1, rfl⟩
        | 1, hv, _ => exact ⟨wa, wo, (tabs mv ts 22).2, by simpa using hv.symm, hs34 _ _ hwo, hwx.mono fun _ _ q => q.sub hs34 fun _ _ z => z, hlen.2, fun h hh => (tabs_row mv ts 22 h hh).2, rfl⟩
        | j + 2, hv, hj => simp at hj; (first | lia | omega)
      walk_at "go"
      refine meth_x (rel := ListB B4 OptV) (by assumption) (.inr (by walk_at "mem")) PySem.F.slot_list_append rfl ?_
      refine cw_b (spliced_more ?_)
      rename_i s5 X5
      refine comp_e X5 (fun _ => OptV) (by rfl) rfl (by decide) ?_
      walk_at "go"
      refine range_1 (by assumption) (fun r s2 X2 => ?_)
      refine it_range0 hA'.handled X2 (k := 7) (by decide) (fun I2 o2 s3 T2 X3 => ?_)
      refine ⟨fun C i B' m' μ' xs => B4 = B' ∧ (List.range i).map (fun p => firstI Tb p) = xs ∧ i ≤ 7 ∧ ∃ pv, (C + 1, IsC pv) :: (I, ItP o4) :: (fa, XL (ListB B4 OptV) ((firstsOf mv ts).take j)) :: (L + 4, IsC (some (.ref tA))) :: (L + 3, IsC bk) :: (L + 2, IsC (some (.ref wa))) :: (L + 1, IsC (some (.ref la))) :: μ = μ', I2, 7, _, o2, B4, _, _, rfl, T2, X3, fun C i B' m' μ' xs h => by rw [← h.2.1]; simp; (first | lia | omega), fun _ _ _ _ _ h => h, fun C => ⟨rfl, rfl, by (first | lia | omega), none, rfl⟩, ?_, ?_⟩
      · rintro C D i v B' m' μ' o' s' E' xs hi ⟨t, rfl⟩ hs ⟨rfl, rfl, hi7, pv, rfl⟩ Y Qy Qm qy qm
        walk_at "go"
        rename_i s6 X6
        refine comp_p X6 IntV (fun n => hoursIn Tb i n) (by rfl) rfl (by decide) ?_
        walk_at "go"
        refine range_1 (by assumption) (fun r s2 X2 => ?_)
        refine it_range0 hA'.handled X2 (k := 22) (by decide) (fun I3 o3 s3 T3 X3 => ?_)
        refine ⟨I3, 22, _, o3, _, B4, _, rfl, T3, X3, fun n hn => Nat.le_trans (hoursIn_len _ _ _) (by (first | lia | omega)), rfl, ?_, ?_⟩
        · rintro C2 D2 n v mc o5 s' E' hn ⟨t4, rfl⟩ Y Qy Qm qy qm
          walk_at "go"
          refine get_x (rel := ListB B4 BoolV) (by assumption) (.inl ⟨tO, htO, hTb⟩) (by (first | lia | omega)) (by (first | lia | omega)) (x := Tb.getD n []) (by rw [Int.toNat_natCast]; exact getD_some (by (first | lia | omega))) (fun v hv => ?_)
          obtain ⟨wa2, wo2, rfl, hwo2, hwx2⟩ := hv
          walk_at "go"
          refine get_x (rel := BoolV) (by assumption) (.inl ⟨wo2, hwo2, hwx2⟩) (by (first | lia | omega)) (by (first | lia | omega)) (x := (Tb.getD n []).getD i false) (by rw [Int.toNat_natCast]; exact getD_some (by have := hTr n hn; (first | lia | omega))) (fun v hv => ?_)
          obtain rfl := hv
          walk_at "go"
          refine ite_both (fun hc => ?_) fun hc => ?_
          · walk_at "go"
            exact qy _ _ ⟨_, (n : Int), by assumption, ⟨_, rfl⟩, hoursIn_yes hc⟩
          · exact qm _ ⟨_, by assumption, hoursIn_no hc⟩
        · intro D2 s7 Y2
          obtain ⟨B5, hs5, ⟨_, hD2, vs5, hv5, c5, rfl⟩, hnone, Y2⟩ := Y2.freeze
          have hl5 := hv5.length
          walk_at "go"
          refine min_gen (d := [.none]) Y2 (min_argsD _ _) ⟨none, some .none, rfl, rfl, rfl⟩ (it_list hA'.handled Y2 hD2 (fun I4 o6 s8 T4 X8 => ?_))
          refine ⟨I4, _, _, o6, _, B5, _, hoursIn Tb i 22, rfl, T4, X8, hl5, fun n v hv => hv5.getV hv, fun h => by simp at h, fun v s9 X9 hv => ?_⟩
          have X9 := (X9.thaw (P := fun _ => True) hs5 hnone hD2 trivial).drop1
          refine qy _ _ ⟨B4, _, _, firstI Tb i, Sub.refl _, X9, ⟨rfl, by rw [List.range_succ]; simp, by (first | lia | omega), _, rfl⟩, ?_⟩
          unfold firstI OptV
          split
          · rename_i e; rw [e] at hv; obtain ⟨r, hr⟩ := hv; simp at hr; exact hr.1.symm
          · rename_i n e; rw [e] at hv; exact hv
      · rintro C D B' m' μ' s' xs hs ⟨rfl, rfl, hi7, pv, rfl⟩ Y
        obtain ⟨B5, hs5, ⟨o5, ho5, hx5⟩, _, Y⟩ := Y.freeze
        have hB5 := hB4.sub hs5
        have Y := (Y.drop1.perm (.swap _ _ _)).weak1 (P' := XL (ListB B5 OptV) ((firstsOf mv ts).take j)) (fun o h => h.mono fun _ _ q => q.sub hs5 fun _ _ z => z)
        walk_at "go"
        refine append_x Y .head (rel := ListB B5 OptV) (x := (List.range 7).map fun p => firstI Tb p) ⟨D, o5, rfl, ho5, hx5⟩ (by rw [List.length_take]; have : (firstsOf mv ts).length = 2 := rfl; (first | lia | omega)) (fun s10 X10 => ?_)
        walk_at "go"
        refine qn _ _ ⟨B5, _, _, hs5, X10.perm (.swap _ _ _), by walk_at "lk", some (.ref tA), ?_⟩
        rw [List.take_add_one, hTf]; rfl
    · rintro B5 m5 μ5 s5 hs5 ⟨m5f, tv, rfl⟩ Y
      have hB5 := hB3.sub hs5
      walk_at "go"
      obtain ⟨B6, hs6, ⟨o6, ho6, hx6⟩, _, Y⟩ := Y.freeze
      refine k B6 _ _ (((((hs.trans hs1).trans hs2).trans hs3).trans hs5).trans hs6) ⟨fa, o6, rfl, ho6, ?_⟩ (Y.leave.drop (.cons _ (.cons _ (.cons _ (.cons _ (List.Sublist.refl _))))))
      exact XL.mono hx6 fun _ _ q => q.sub hs6 fun _ _ z => z
end
end text_W6
section text_P7
set_option maxRecDepth 100000

section
variable {g : List (List Int)} {ts : List Int} {st : RS}

theorem bestO_min : ∀ (xs : List Int) (b : Int), ∃ m, xs.foldl (bestO fun x b => decide (x < b)) (some b) = some m ∧ m ≤ b ∧ (∀ x ∈ xs, m ≤ x) ∧ (m = b ∨ m ∈ xs)
  | [], b => ⟨b, rfl, Int.le_refl _, fun x h => by simp at h, .inl rfl⟩
  | x :: xs, b => by
    rw [List.foldl_cons]
    by_cases h : x < b
    · have e : bestO (fun x b => decide (x < b)) (some b) x = some x := by show (if decide (x < b) = true then some x else some b) = _; rw [if_pos (by simpa using h)]
      obtain ⟨m, h1, h2, h3, h4⟩ := bestO_min xs x
      rw [e]
      refine ⟨m, h1, by (first | lia | omega), fun y hy => ?_, ?_⟩
      · rcases List.mem_cons.mp hy with rfl | hy
        · exact h2
        · exact h3 y hy
      · rcases h4 with rfl | h4
        · exact .inr List.mem_cons_self
        · exact .inr (List.mem_cons_of_mem _ h4)
    · have e : bestO (fun x b => decide (x < b)) (some b) x = some b := by show (if decide (x < b) = true then some x else some b) = _; rw [if_neg (by simpa using h)]
      obtain ⟨m, h1, h2, h3, h4⟩ := bestO_min xs b
      rw [e]
      refine ⟨m, h1, h2, fun y hy => ?_, ?_⟩
      · rcases List.mem_cons.mp hy with rfl | hy
        · (first | lia | omega)
        · exact h3 y hy
      · rcases h4 with rfl | h4
        · exact .inl rfl
        · exact .inr (List.mem_cons_of_mem _ h4)
theorem minI_of {xs : List Int} {a : Int} (h : a ∈ xs) (hm : ∀ x ∈ xs, a ≤ x) : minI xs = some a := by
  cases xs with
  | nil => simp at h
  | cons x xs =>
    obtain ⟨m, h1, h2, h3, h4⟩ := bestO_min xs x
    have e : minI (x :: xs) = some m := h1
    have h5 : m ∈ x :: xs := by
      rcases h4 with rfl | h4
      · exact List.mem_cons_self
      · exact List.mem_cons_of_mem _ h4
    have h6 : ∀ y ∈ x :: xs, m ≤ y := fun y hy => by
      rcases List.mem_cons.mp hy with rfl | hy
      · exact h2
      · exact h3 y hy
    rw [e]
    have := hm m h5
    have := h6 a h
    congr 1; (first | lia | omega)
theorem firstI_of {T : List (List Bool)} {p : Nat} {x : Option Int} (hT : ∀ h, h < 22 → (T.getD h []).getD p false = (match x with | some v => decide (v ≤ (h : Int)) | none => false)) (hx : ∀ v, x = some v → 0 ≤ v ∧ v ≤ 21) : firstI T p = x := by
  unfold firstI
  cases x with
  | none =>
    have : hoursIn T p 22 = [] := by
      unfold hoursIn
      rw [List.map_eq_nil_iff, List.filter_eq_nil_iff]
      intro h hh
      rw [hT h (List.mem_range.mp hh)]
      simp
    rw [this]; rfl
  | some v =>
    obtain ⟨v0, v21⟩ := hx v rfl
    have hm : ∀ y, y ∈ hoursIn T p 22 ↔ v ≤ y ∧ y < 22 := fun y => by
      unfold hoursIn
      rw [List.mem_map]
      constructor
      · rintro ⟨h, hh, rfl⟩
        rw [List.mem_filter, List.mem_range] at hh
        rw [hT h hh.1] at hh
        have h2 : v ≤ (h : Int) := by simpa using hh.2
        have h1 := hh.1
        refine ⟨h2, ?_⟩
        show (h : Int) < 22
        (first | lia | omega)
      · rintro ⟨h1, h2⟩
        refine ⟨y.toNat, ?_, ?_⟩
        · rw [List.mem_filter, List.mem_range]
          refine ⟨by (first | lia | omega), ?_⟩
          rw [hT _ (by (first | lia | omega))]
          simp; (first | lia | omega)
        · show (y.toNat : Int) = y
          (first | lia | omega)
    exact minI_of ((hm v).mpr ⟨Int.le_refl _, by (first | lia | omega)⟩) fun y hy => ((hm y).mp hy).1

theorem W_pos (I : RInv g ts st) (hh : st.heap = []) (G : Game g ts) {q v : Int} (h0 : 0 ≤ q) (h7 : q < 7) (hw : wOf st.hours q = some v) : 1 ≤ v := by
  obtain ⟨r, hr, hr7, hcr, hv, _⟩ := W_some I hh G h0 h7 hw
  have := lh_nonneg I hh G hr7.1 hr7.2 hcr
  have := (G.tr q h0 h7).1
  (first | lia | omega)
noncomputable def lostB (g : List (List Int)) (ts : List Int) (W : Int → Option Int) (p : Int) : Option Int := if cn g W p = 0 then some (lhOf g ts W p) else none
noncomputable def atB (x : Option Int) (h : Int) : Bool := match x with | some v => decide (v ≤ h) | none => false

theorem lost_row (I : RInv g ts st) (hh : st.heap = []) (G : Game g ts) {Wt : List (List Bool)} {n p : Nat} (hp : p < 7) (ih : ∀ j, j < n → ∀ q : Nat, q < 7 → (Wt.getD j []).getD q false = atB (wOf st.hours q) j) :
    lostAt g ts Wt n p = atB (lostB g ts (wOf st.hours) p) n := by
  have eg : g.getD p [] = gI g p := by unfold gI; rw [Int.toNat_natCast]
  have et : ts.getD p 0 = tI ts p := by unfold tI; rw [Int.toNat_natCast]
  unfold lostAt
  rw [eg, et]
  have t := G.tr p (by (first | lia | omega)) (by (first | lia | omega))
  by_cases hn : gI g p = []
  · have hc : cn g (wOf st.hours) p = 0 := cn_zero.mpr fun r hr => by rw [hn] at hr; simp at hr
    unfold lostB atB
    rw [if_pos hc, lh_nil hn, hn]
    simp
  · rw [decide_eq_false hn, Bool.false_or]
    by_cases h0 : (n : Int) - tI ts p ≥ 0
    · rw [decide_eq_true h0, Bool.true_and]
      have ef : ∀ r ∈ gI g p, (Wt.getD ((n : Int) - tI ts p).toNat []).getD r.toNat false = atB (wOf st.hours r) (n - tI ts p) := fun r hr => by
        have hr7 := G.gr p (by (first | lia | omega)) (by (first | lia | omega)) r hr
        have := ih ((n : Int) - tI ts p).toNat (by (first | lia | omega)) r.toNat (by (first | lia | omega))
        rw [this, show ((r.toNat : Nat) : Int) = r by (first | lia | omega), show ((((n : Int) - tI ts p).toNat : Nat) : Int) = n - tI ts p by (first | lia | omega)]
      rw [List.map_congr_left ef]
      have ew : (∀ r ∈ gI g p, atB (wOf st.hours r) (n - tI ts p) = true) ↔ atB (lostB g ts (wOf st.hours) p) n = true := by
        constructor
        · intro h
          have hc : cn g (wOf st.hours) p = 0 := cn_zero.mpr fun r hr => by
            have := h r hr
            cases hw : wOf st.hours r with
            | none => rw [hw] at this; cases this
            | some v => rfl
          obtain ⟨r, hr, v, hw, e, _⟩ := lh_some (ts := ts) hc hn
          have := h r hr
          rw [hw] at this
          have this : v ≤ n - tI ts p := by simpa [atB] using this
          unfold lostB atB
          rw [if_pos hc]
          simp only [decide_eq_true_eq]
          (first | lia | omega)
        · intro h r hr
          by_cases hc : cn g (wOf st.hours) p = 0
          · unfold lostB at h
            rw [if_pos hc] at h
            have h : lhOf g ts (wOf st.hours) p ≤ n := by simpa [atB] using h
            obtain ⟨r1, hr1, v, hw, e, hmax⟩ := lh_some (ts := ts) hc hn
            obtain ⟨v', hw', hle⟩ := hmax r hr
            rw [hw']
            show decide (v' ≤ _) = true
            simp only [decide_eq_true_eq]
            (first | lia | omega)
          · unfold lostB at h
            rw [if_neg hc] at h
            cases h
      rw [Bool.eq_iff_iff, ← ew]
      simp only [Bool.not_eq_true', decide_eq_false_iff_not, List.mem_map, not_exists, not_and]
      exact ⟨fun h r hr => by
        cases q : atB (wOf st.hours r) (n - tI ts p) with
        | true => rfl
        | false => exact absurd q (h r hr), fun h r hr e => by rw [h r hr] at e; cases e⟩
    · rw [decide_eq_false h0, Bool.false_and]
      unfold lostB
      split
      · rename_i hc
        obtain ⟨r, hr, v, hw, e, _⟩ := lh_some (ts := ts) hc hn
        have hr7 := G.gr p (by (first | lia | omega)) (by (first | lia | omega)) r hr
        have := W_pos I hh G hr7.1 hr7.2 hw
        show false = decide (_ ≤ _)
        rw [eq_comm, decide_eq_false_iff_not]
        (first | lia | omega)
      · rfl
theorem won_row (I : RInv g ts st) (hh : st.heap = []) (G : Game g ts) {Lt : List (List Bool)} {n p : Nat} (hp : p < 7) (ih : ∀ j, j < n → ∀ q : Nat, q < 7 → (Lt.getD j []).getD q false = atB (lostB g ts (wOf st.hours) q) j) :
    wonAt g ts Lt n p = atB (wOf st.hours p) n := by
  have eg : g.getD p [] = gI g p := by unfold gI; rw [Int.toNat_natCast]
  have et : ts.getD p 0 = tI ts p := by unfold tI; rw [Int.toNat_natCast]
  unfold wonAt
  rw [eg, et]
  have t := G.tr p (by (first | lia | omega)) (by (first | lia | omega))
  have p0 : (0 : Int) ≤ p := by (first | lia | omega)
  have p7 : (p : Int) < 7 := by (first | lia | omega)
  by_cases h0 : (n : Int) - tI ts p ≥ 0
  · rw [decide_eq_true h0, Bool.true_and]
    have ef : ∀ r ∈ gI g p, (Lt.getD ((n : Int) - tI ts p).toNat []).getD r.toNat false = atB (lostB g ts (wOf st.hours) r) (n - tI ts p) := fun r hr => by
      have hr7 := G.gr p (by (first | lia | omega)) (by (first | lia | omega)) r hr
      have := ih ((n : Int) - tI ts p).toNat (by (first | lia | omega)) r.toNat (by (first | lia | omega))
      rw [this, show ((r.toNat : Nat) : Int) = r by (first | lia | omega), show ((((n : Int) - tI ts p).toNat : Nat) : Int) = n - tI ts p by (first | lia | omega)]
    rw [List.map_congr_left ef]
    rw [Bool.eq_iff_iff, decide_eq_true_eq, List.mem_map]
    constructor
    · rintro ⟨r, hr, e⟩
      unfold lostB at e
      split at e
      · rename_i hc
        have e : lhOf g ts (wOf st.hours) r ≤ n - tI ts p := by simpa [atB] using e
        cases hw : wOf st.hours p with
        | none => exact absurd hc (W_none I hh G p0 p7 hw r hr)
        | some v =>
          obtain ⟨r2, hr2, h27, hc2, ev, hmin⟩ := W_some I hh G p0 p7 hw
          have := hmin r hr hc
          show decide (v ≤ _) = true
          simp only [decide_eq_true_eq]
          (first | lia | omega)
      · cases e
    · intro h
      cases hw : wOf st.hours p with
      | none => rw [hw] at h; cases h
      | some v =>
        rw [hw] at h
        have h : v ≤ n := by simpa [atB] using h
        obtain ⟨r2, hr2, h27, hc2, ev, hmin⟩ := W_some I hh G p0 p7 hw
        refine ⟨r2, hr2, ?_⟩
        unfold lostB
        rw [if_pos hc2]
        show decide (_ ≤ _) = true
        simp only [decide_eq_true_eq]
        (first | lia | omega)
  · rw [decide_eq_false h0, Bool.false_and]
    cases hw : wOf st.hours p with
    | none => rfl
    | some v =>
      obtain ⟨r2, hr2, h27, hc2, ev, hmin⟩ := W_some I hh G p0 p7 hw
      have := lh_nonneg I hh G h27.1 h27.2 hc2
      show false = decide (_ ≤ _)
      rw [eq_comm, decide_eq_false_iff_not]
      (first | lia | omega)

theorem tabs_spec (I : RInv g ts st) (hh : st.heap = []) (G : Game g ts) : ∀ n h, h < n → ∀ p : Nat, p < 7 →
    ((tabs g ts n).1.getD h []).getD p false = atB (lostB g ts (wOf st.hours) p) h ∧ ((tabs g ts n).2.getD h []).getD p false = atB (wOf st.hours p) h
  | 0, h, hn, _, _ => by (first | lia | omega)
  | n + 1, h, hn, p, hp => by
    have l := tabs_len g ts n
    have ih := tabs_spec I hh G n
    by_cases e : h < n
    · have := ih h e p hp
      simp only [tabs, List.getD_eq_getElem?_getD] at this ⊢
      rw [List.getElem?_append_left (by (first | lia | omega)), List.getElem?_append_left (by (first | lia | omega))]
      exact this
    · have e : h = n := by (first | lia | omega)
      subst e
      have h1 := lost_row I hh G hp (Wt := (tabs g ts h).2) (n := h) fun j hj q hq => (ih j hj q hq).2
      have h2 := won_row I hh G hp (Lt := (tabs g ts h).1) (n := h) fun j hj q hq => (ih j hj q hq).1
      rw [← h1, ← h2]
      simp only [tabs, List.getD_eq_getElem?_getD]
      rw [List.getElem?_append_right (by (first | lia | omega)), List.getElem?_append_right (by (first | lia | omega)), l.1, l.2]
      simp only [Nat.sub_self, List.getElem?_cons_zero, Option.getD_some, List.getElem?_map]
      rw [List.getElem?_range hp]
      exact ⟨rfl, rfl⟩

theorem firsts_spec (I : RInv g ts st) (hh : st.heap = []) (G : Game g ts) {lost won : List (Option Int)} (h : firstsOf g ts = [lost, won]) :
    lost = (List.range 7).map (fun p : Nat => lostB g ts (wOf st.hours) p) ∧ won = (List.range 7).map (fun p : Nat => wOf st.hours p) := by
  unfold firstsOf at h
  injection h with h1 h2
  injection h2 with h2 _
  refine ⟨h1.symm.trans (List.map_congr_left fun p hp => ?_), h2.symm.trans (List.map_congr_left fun p hp => ?_)⟩
  · rw [List.mem_range] at hp
    refine firstI_of (fun h hh' => (tabs_spec I hh G 22 h hh' p hp).1) fun v hv => ?_
    unfold lostB at hv
    split at hv
    · rename_i hc
      injection hv with hv
      have := lh_nonneg I hh G (p := p) (by (first | lia | omega)) (by (first | lia | omega)) hc
      have := HH_18 I hh G (p := p) (by (first | lia | omega)) (by (first | lia | omega)) (HH_lost hc)
      (first | lia | omega)
    · cases hv
  · rw [List.mem_range] at hp
    refine firstI_of (fun h hh' => (tabs_spec I hh G 22 h hh' p hp).2) fun v hv => ?_
    have := W_pos I hh G (q := p) (by (first | lia | omega)) (by (first | lia | omega)) hv
    have := HH_18 I hh G (p := p) (by (first | lia | omega)) (by (first | lia | omega)) (HH_won I hh G (by (first | lia | omega)) (by (first | lia | omega)) hv)
    (first | lia | omega)
end
end text_P7
section text_P8
set_option maxRecDepth 100000

theorem ltP_asymm {x y : PI} (h : ltP x y = true) (h' : ltP y x = true) : False := by rw [ltP_iff] at h h'; (first | lia | omega)
theorem sorted_unique {α : Type} {key : α → PI} : ∀ {ys zs : List α}, ys.Perm zs → ys.Pairwise (fun x y => ltP (key x) (key y) = true) → zs.Pairwise (fun x y => ltP (key x) (key y) = true) → ys = zs
  | [], zs, p, _, _ => (List.nil_perm.mp p).symm
  | y :: ys, [], p, _, _ => by have := p.length_eq; simp at this
  | y :: ys, z :: zs, p, h1, h2 => by
    have e : y = z := by
      have hy : y ∈ z :: zs := p.subset List.mem_cons_self
      have hz : z ∈ y :: ys := p.symm.subset List.mem_cons_self
      rcases List.mem_cons.mp hy with e | hy
      · exact e
      · rcases List.mem_cons.mp hz with e | hz
        · exact e.symm
        · exact (ltP_asymm ((List.pairwise_cons.mp h1).1 z hz) ((List.pairwise_cons.mp h2).1 y hy)).elim
    subst e
    rw [sorted_unique p.cons_inv (List.pairwise_cons.mp h1).2 (List.pairwise_cons.mp h2).2]
theorem SortOut.unique {α : Type} {key : α → PI} {xs ys zs : List α} (h1 : SortOut key xs ys) (h2 : SortOut key xs zs) : ys = zs := sorted_unique (h1.1.trans h2.1.symm) h1.2 h2.2

theorem rem_succ {W : Int → Option Int} {j : Int} : ∀ {l : List Int}, l.Nodup → (l.filter fun r => (W r).isNone && decide (j ≤ r)).length = (l.filter fun r => (W r).isNone && decide (j + 1 ≤ r)).length + (if j ∈ l ∧ W j = none then 1 else 0)
  | [], _ => by simp
  | a :: l, nd => by
    simp only [List.nodup_cons] at nd
    have ih := rem_succ (W := W) (j := j) nd.2
    rw [List.filter_cons, List.filter_cons]
    by_cases e : a = j
    · subst e
      have h2 : decide (a + 1 ≤ a) = false := by rw [decide_eq_false_iff_not]; (first | lia | omega)
      rw [if_neg (fun h => nd.1 h.1)] at ih
      rw [h2, Bool.and_false]
      cases hw : W a with
      | none => simp; simpa using ih
      | some v => simp; simpa using ih
    · have h2 : decide (j ≤ a) = decide (j + 1 ≤ a) := by
        rw [decide_eq_decide]; (first | lia | omega)
      have h3 : (j ∈ a :: l) ↔ j ∈ l := by simp [Ne.symm e]
      rw [h2]
      simp only [h3]
      split
      · simp only [List.length_cons]; (first | lia | omega)
      · exact ih

theorem doneAll_low {S : Int → List Int} : ∀ (ks : List Int) (N : Int → Int) (rd : List Int), (∀ k ∈ ks, S k = []) → doneAll S (N, rd) ks = (fun x => if x ∈ ks then -2 else N x, rd)
  | [], N, rd, _ => by simp [doneAll]
  | k :: ks, N, rd, h => by
    have e : doneAll S (N, rd) (k :: ks) = doneAll S (upd N k (-2), rd) ks := by
      show doneAll S (doneStep S (N, rd) k) ks = _
      unfold doneStep
      rw [h k List.mem_cons_self]; rfl
    rw [e, doneAll_low ks _ _ fun y hy => h y (List.mem_cons_of_mem _ hy)]
    refine Prod.ext ?_ rfl
    funext x
    show (if x ∈ ks then (-2 : Int) else upd N k (-2) x) = if x ∈ k :: ks then -2 else N x
    unfold upd
    by_cases h1 : x ∈ ks
    · rw [if_pos h1, if_pos (List.mem_cons_of_mem _ h1)]
    · rw [if_neg h1]
      by_cases h2 : x = k
      · rw [if_pos h2, if_pos (h2 ▸ List.mem_cons_self)]
      · rw [if_neg h2, if_neg (by simp [h1, h2])]

section
variable {g : List (List Int)} {ts keys : List Int} {S : Int → List Int} {st : RS} {lost won : List (Option Int)}

theorem lost_at (hl : lost = (List.range 7).map (fun p : Nat => lostB g ts (wOf st.hours) p)) {p : Nat} (hp : p < 7) : lost.getD p none = lostB g ts (wOf st.hours) p := by
  rw [hl, List.getD_eq_getElem?_getD, List.getElem?_map, List.getElem?_range hp]; rfl
theorem won_at (hw : won = (List.range 7).map (fun p : Nat => wOf st.hours p)) {p : Nat} (hp : p < 7) : won.getD p none = wOf st.hours p := by
  rw [hw, List.getD_eq_getElem?_getD, List.getElem?_map, List.getElem?_range hp]; rfl

structure Inv1 (g : List (List Int)) (lost : List (Option Int)) (st : RS) (i : Nat) (u : RefSt) : Prop where
  rd : u.P.2 = []
  rf : u.ref = othersOf lost i
  nf : u.nf = st.nf + (((rangeI 0 i).filter fun p => decide (cn g (wOf st.hours) p = 0)).length : Int)
  n : ∀ x, u.P.1 x = if 0 ≤ x ∧ x < i ∧ cn g (wOf st.hours) x = 0 then -2 else st.N x
theorem Inv1.step (I : RInv g ts st) (O : SOk g keys S) (hl : lost = (List.range 7).map (fun p : Nat => lostB g ts (wOf st.hours) p)) {i : Nat} (hi : i < 7) {u : RefSt} (J : Inv1 g lost st i u) : Inv1 g lost st (i + 1) (refStep S u (0 + (i : Int))) := by
  have e0 : (0 : Int) + i = i := by (first | lia | omega)
  rw [e0]
  have hN : u.P.1 i = st.N i := by rw [J.n, if_neg (by (first | lia | omega))]
  have n2 := I.n2 i (by (first | lia | omega)) (by (first | lia | omega))
  have hla := lost_at hl hi
  unfold refStep
  by_cases hc : cn g (wOf st.hours) i = 0
  · rw [if_pos hc] at n2
    rw [if_pos (by rw [hN, n2])]
    have hS : S i = [] := O.s0 _ (by (first | lia | omega))
    refine ⟨?_, ?_, ?_, fun x => ?_⟩
    · show ((S i).foldl decr (upd u.P.1 i (-2), u.P.2)).2 = []
      rw [hS]; exact J.rd
    · show u.ref = _
      rw [othersOf_succ, hla, J.rf]
      unfold lostB
      rw [if_pos hc, List.append_nil]
    · show u.nf + 1 = _
      rw [rangeI_succ, List.filter_append, List.filter_cons, e0, if_pos (by simpa using hc), J.nf]
      simp; (first | lia | omega)
    · show ((S i).foldl decr (upd u.P.1 i (-2), u.P.2)).1 x = _
      rw [hS]
      show upd u.P.1 i (-2) x = _
      unfold upd
      by_cases e : x = i
      · subst e; rw [if_pos rfl, if_pos ⟨by (first | lia | omega), by (first | lia | omega), hc⟩]
      · rw [if_neg e, J.n]
        by_cases h : 0 ≤ x ∧ x < i ∧ cn g (wOf st.hours) x = 0
        · rw [if_pos h, if_pos ⟨h.1, by (first | lia | omega), h.2.2⟩]
        · rw [if_neg h, if_neg (fun h' => h ⟨h'.1, by (first | lia | omega), h'.2.2⟩)]
  · rw [if_neg hc] at n2
    rw [if_neg (by rw [hN, n2]; (first | lia | omega))]
    refine ⟨J.rd, ?_, ?_, fun x => ?_⟩
    · show u.ref ++ [(i : Int)] = _
      rw [othersOf_succ, hla, J.rf]
      unfold lostB
      rw [if_neg hc]
    · rw [rangeI_succ, List.filter_append, List.filter_cons, e0, if_neg (by simpa using hc), J.nf]
      simp
    · show u.P.1 x = _
      rw [J.n]
      by_cases h : 0 ≤ x ∧ x < i ∧ cn g (wOf st.hours) x = 0
      · rw [if_pos h, if_pos ⟨h.1, by (first | lia | omega), h.2.2⟩]
      · rw [if_neg h, if_neg (fun h' => by
          by_cases e : x = i
          · exact hc (e ▸ h'.2.2)
          · exact h ⟨h'.1, by (first | lia | omega), h'.2.2⟩)]
theorem Inv1.all (I : RInv g ts st) (O : SOk g keys S) (hl : lost = (List.range 7).map (fun p : Nat => lostB g ts (wOf st.hours) p)) : ∀ i, i ≤ 7 → Inv1 g lost st i (refAll S ⟨(st.N, []), st.nf, []⟩ (rangeI 0 i))
  | 0, _ => ⟨rfl, rfl, by show st.nf = st.nf + ((0 : Nat) : Int); (first | lia | omega), fun x => by rw [if_neg (by (first | lia | omega))]; rfl⟩
  | i + 1, hi => by
    rw [rangeI_succ, refAll_snoc]
    exact (Inv1.all I O hl i (by (first | lia | omega))).step I O hl (by (first | lia | omega))

noncomputable def unN (g : List (List Int)) (W : Int → Option Int) (j p : Int) : Nat := ((gI g p).filter fun r => (W r).isNone && decide (j ≤ r)).length
theorem unN_zero (G : Game g ts) {W : Int → Option Int} {p : Int} (h0 : 0 ≤ p) (h7 : p < 7) : unN g W 0 p = cn g W p := by
  unfold unN cn
  congr 1
  refine List.filter_congr fun r hr => ?_
  have := G.gr p h0 h7 r hr
  rw [decide_eq_true this.1, Bool.and_true]
theorem unN_seven (G : Game g ts) {W : Int → Option Int} {p : Int} (h0 : 0 ≤ p) (h7 : p < 7) : unN g W 7 p = 0 := by
  unfold unN
  rw [List.length_eq_zero_iff, List.filter_eq_nil_iff]
  intro r hr
  have := G.gr p h0 h7 r hr
  simp; (first | lia | omega)
theorem open_eq (G : Game g ts) (hw : won = (List.range 7).map (fun p : Nat => wOf st.hours p)) {p : Int} (h0 : 0 ≤ p) (h7 : p < 7) : openOf g won p (gI g p).length = (gI g p).filter fun r => (wOf st.hours r).isNone := by
  unfold openOf
  rw [List.take_length]
  refine List.filter_congr fun r hr => ?_
  have := G.gr p h0 h7 r hr
  rw [won_at hw (p := r.toNat) (by (first | lia | omega)), show ((r.toNat : Nat) : Int) = r by (first | lia | omega)]

structure Inv2 (g : List (List Int)) (won : List (Option Int)) (st : RS) (nf0 : Int) (j : Nat) (u : RefSt) : Prop where
  rf : u.ref = wonsOf won j
  nf : u.nf = nf0 + (((rangeI 0 j).filter fun q => (wOf st.hours q).isNone).length : Int)
  n1 : ∀ q, 0 ≤ q → q < 7 → u.P.1 (7 + q) = if (wOf st.hours q).isNone ∧ (j : Int) ≤ q then -1 else -2
  n2 : ∀ p, 0 ≤ p → p < 7 → u.P.1 p = if cn g (wOf st.hours) p = 0 then -2 else (unN g (wOf st.hours) j p : Int)
  rd : ∀ p, p ∈ u.P.2 ↔ 0 ≤ p ∧ p < 7 ∧ cn g (wOf st.hours) p ≠ 0 ∧ unN g (wOf st.hours) j p = 0
  nd : u.P.2.Nodup
  srt : u.P.2.Pairwise fun x y => ltP (keyOf g won x) (keyOf g won y) = true
  kj : ∀ p ∈ u.P.2, (keyOf g won p).1 < j

theorem Inv2.step (G : Game g ts) (I : RInv g ts st) (O : SOk g keys S) (hw : won = (List.range 7).map (fun p : Nat => wOf st.hours p)) {nf0 : Int} {j : Nat} (hj : j < 7) {u : RefSt} (J : Inv2 g won st nf0 j u) : Inv2 g won st nf0 (j + 1) (refStep S u (7 + (j : Int))) := by
  have hwa := won_at hw hj
  have hn1 := J.n1 j (by (first | lia | omega)) (by (first | lia | omega))
  have rs : ∀ p, 0 ≤ p → p < 7 → unN g (wOf st.hours) j p = unN g (wOf st.hours) (j + 1) p + (if (j : Int) ∈ gI g p ∧ wOf st.hours j = none then 1 else 0) := fun p h0 h7 => rem_succ (nodup_of_lt (G.gs p h0 h7))
  have ej : (((j + 1 : Nat) : Int)) = (j : Int) + 1 := by (first | lia | omega)
  unfold refStep
  cases hc : wOf st.hours j with
  | some v =>
    rw [hc] at hn1
    have hn1' : u.P.1 (7 + (j : Int)) = -2 := by rw [hn1, if_neg (by simp)]
    rw [if_neg (by rw [hn1']; decide)]
    have rs' : ∀ p, 0 ≤ p → p < 7 → unN g (wOf st.hours) ((j + 1 : Nat) : Int) p = unN g (wOf st.hours) j p := fun p h0 h7 => by
      have := rs p h0 h7
      rw [hc, if_neg (by simp)] at this
      rw [ej]; (first | lia | omega)
    refine ⟨?_, ?_, fun q h0 h7 => ?_, fun p h0 h7 => ?_, fun p => ?_, J.nd, J.srt, fun p hp => by have := J.kj p hp; (first | lia | omega)⟩
    · show u.ref ++ [7 + (j : Int)] = _
      rw [wonsOf_succ, hwa, hc, J.rf]
    · show u.nf = _
      rw [rangeI_succ, List.filter_append, List.filter_cons, show (0 : Int) + (j : Int) = j by (first | lia | omega), hc, J.nf]
      simp
    · show u.P.1 (7 + q) = _
      rw [J.n1 q h0 h7]
      by_cases e : q = j
      · subst e
        rw [hc, if_neg (by simp), if_neg (by simp)]
      · have : ((j : Int) ≤ q) ↔ (((j + 1 : Nat) : Int) ≤ q) := by (first | lia | omega)
        simp only [this]
    · show u.P.1 p = _
      rw [J.n2 p h0 h7, rs' p h0 h7]
    · show p ∈ u.P.2 ↔ _
      rw [J.rd p]
      constructor
      · rintro ⟨h0, h7, h1, h2⟩; exact ⟨h0, h7, h1, by rw [rs' p h0 h7]; exact h2⟩
      · rintro ⟨h0, h7, h1, h2⟩; exact ⟨h0, h7, h1, by rw [← rs' p h0 h7]; exact h2⟩
  | none =>
    rw [hc] at hn1
    rw [if_pos (by rw [hn1, if_pos ⟨rfl, Int.le_refl _⟩])]
    have rs' : ∀ p, 0 ≤ p → p < 7 → unN g (wOf st.hours) j p = unN g (wOf st.hours) ((j + 1 : Nat) : Int) p + (if (j : Int) ∈ gI g p then 1 else 0) := fun p h0 h7 => by
      have := rs p h0 h7
      rw [hc] at this
      simp only [and_true] at this
      rw [ej]; exact this
    have hS := O.s2 j (by (first | lia | omega)) (by (first | lia | omega))
    have hSs : (S (7 + (j : Int))).Pairwise (· < ·) := by rw [hS]; exact (rangeI_sorted _ _).filter _
    have hSnd : (S (7 + (j : Int))).Nodup := nodup_of_lt hSs
    have hSm : ∀ p, p ∈ S (7 + (j : Int)) ↔ (0 ≤ p ∧ p < 7) ∧ (j : Int) ∈ gI g p := fun p => by rw [hS, List.mem_filter, rangeI_mem]; simp
    have eP : doneStep S u.P (7 + (j : Int)) = ((fun y => if y ∈ S (7 + (j : Int)) then upd u.P.1 (7 + (j : Int)) (-2) y - 1 else upd u.P.1 (7 + (j : Int)) (-2) y), u.P.2 ++ (S (7 + (j : Int))).filter fun y => decide (upd u.P.1 (7 + (j : Int)) (-2) y - 1 = 0)) := decr_all _ _ _ hSnd
    have hup : ∀ p, p < 7 → upd u.P.1 (7 + (j : Int)) (-2) p = u.P.1 p := fun p h7 => by unfold upd; rw [if_neg (by (first | lia | omega))]
    have hcn : ∀ p, 0 ≤ p → p < 7 → (j : Int) ∈ gI g p → cn g (wOf st.hours) p ≠ 0 := fun p h0 h7 hm h => by
      have := cn_zero.mp h j hm
      rw [hc] at this; cases this
    have hnew : ∀ p, p ∈ ((S (7 + (j : Int))).filter fun y => decide (upd u.P.1 (7 + (j : Int)) (-2) y - 1 = 0)) ↔ ((0 ≤ p ∧ p < 7) ∧ (j : Int) ∈ gI g p) ∧ unN g (wOf st.hours) ((j + 1 : Nat) : Int) p = 0 := fun p => by
      rw [List.mem_filter, hSm]
      refine and_congr_right fun ⟨⟨h0, h7⟩, hm⟩ => ?_
      have r := rs' p h0 h7
      rw [if_pos hm] at r
      rw [hup p h7, J.n2 p h0 h7, if_neg (hcn p h0 h7 hm), decide_eq_true_eq]
      (first | lia | omega)
    have hkey : ∀ p, p ∈ ((S (7 + (j : Int))).filter fun y => decide (upd u.P.1 (7 + (j : Int)) (-2) y - 1 = 0)) → keyOf g won p = ((j : Int), p) := fun p hp => by
      obtain ⟨⟨⟨h0, h7⟩, hm⟩, hr⟩ := (hnew p).mp hp
      have ho := open_eq (st := st) G hw h0 h7
      have hmem : (j : Int) ∈ openOf g won p (gI g p).length := by rw [ho, List.mem_filter]; exact ⟨hm, by rw [hc]; rfl⟩
      obtain ⟨m, e1, e2, e3⟩ := maxI_spec (List.ne_nil_of_mem hmem)
      unfold keyOf
      rw [e1]
      have h1 := e3 _ hmem
      rw [ho, List.mem_filter] at e2
      have h2 : m < (j : Int) + 1 := by
        refine Classical.byContradiction fun hh => ?_
        unfold unN at hr
        rw [List.length_eq_zero_iff, List.filter_eq_nil_iff] at hr
        have := hr m e2.1
        rw [e2.2] at this
        simp at this
        (first | lia | omega)
      have : m = j := by (first | lia | omega)
      rw [this]; rfl
    rw [eP]
    refine ⟨?_, ?_, fun q h0 h7 => ?_, fun p h0 h7 => ?_, fun p => ?_, ?_, ?_, fun p hp => ?_⟩
    · show u.ref = _
      rw [wonsOf_succ, hwa, hc, J.rf, List.append_nil]
    · show u.nf + 1 = _
      rw [rangeI_succ, List.filter_append, List.filter_cons, show (0 : Int) + (j : Int) = j by (first | lia | omega), hc, J.nf]
      simp; (first | lia | omega)
    · show (if 7 + q ∈ S (7 + (j : Int)) then upd u.P.1 (7 + (j : Int)) (-2) (7 + q) - 1 else upd u.P.1 (7 + (j : Int)) (-2) (7 + q)) = _
      rw [if_neg (fun h => by have := (hSm _).mp h; (first | lia | omega))]
      unfold upd
      by_cases e : q = j
      · subst e
        rw [if_pos rfl, if_neg (fun h => by have := h.2; (first | lia | omega))]
      · rw [if_neg (by (first | lia | omega)), J.n1 q h0 h7]
        have : ((j : Int) ≤ q) ↔ (((j + 1 : Nat) : Int) ≤ q) := by (first | lia | omega)
        simp only [this]
    · show (if p ∈ S (7 + (j : Int)) then upd u.P.1 (7 + (j : Int)) (-2) p - 1 else upd u.P.1 (7 + (j : Int)) (-2) p) = _
      have r := rs' p h0 h7
      rw [hup p h7, J.n2 p h0 h7]
      by_cases hm : p ∈ S (7 + (j : Int))
      · have hm' := ((hSm p).mp hm).2
        rw [if_pos hm'] at r
        rw [if_pos hm, if_neg (hcn p h0 h7 hm'), if_neg (hcn p h0 h7 hm')]
        (first | lia | omega)
      · have hm' : ¬ (j : Int) ∈ gI g p := fun h => hm ((hSm p).mpr ⟨⟨h0, h7⟩, h⟩)
        rw [if_neg hm'] at r
        rw [if_neg hm, r, Nat.add_zero]
    · rw [List.mem_append, J.rd p, hnew p]
      constructor
      · rintro (⟨h0, h7, h1, h2⟩ | ⟨⟨⟨h0, h7⟩, hm⟩, h2⟩)
        · have r := rs' p h0 h7
          exact ⟨h0, h7, h1, by (first | lia | omega)⟩
        · exact ⟨h0, h7, hcn p h0 h7 hm, h2⟩
      · rintro ⟨h0, h7, h1, h2⟩
        have r := rs' p h0 h7
        by_cases hm : (j : Int) ∈ gI g p
        · exact .inr ⟨⟨⟨h0, h7⟩, hm⟩, h2⟩
        · rw [if_neg hm] at r
          exact .inl ⟨h0, h7, h1, by (first | lia | omega)⟩
    · refine List.nodup_append.mpr ⟨J.nd, hSnd.filter _, fun x hx y hy e => ?_⟩
      subst e
      have h1 := (J.rd x).mp hx
      have h2 := (hnew x).mp hy
      have r := rs' x h1.1 h1.2.1
      rw [if_pos h2.1.2] at r
      (first | lia | omega)
    · refine List.pairwise_append.mpr ⟨J.srt, ?_, fun x hx y hy => ?_⟩
      · refine (hSs.filter _).imp_of_mem fun {a b} ha hb hab => ?_
        rw [hkey a ha, hkey b hb, ltP_iff]
        exact .inr ⟨rfl, hab⟩
      · rw [hkey y hy, ltP_iff]
        exact .inl (J.kj x hx)
    · rcases List.mem_append.mp hp with hp | hp
      · have := J.kj p hp; (first | lia | omega)
      · rw [hkey p hp]
        show (j : Int) < _
        (first | lia | omega)
theorem Inv2.all (G : Game g ts) (I : RInv g ts st) (O : SOk g keys S) (hw : won = (List.range 7).map (fun p : Nat => wOf st.hours p)) {u0 : RefSt} (J0 : Inv2 g won st u0.nf 0 ⟨u0.P, u0.nf, []⟩) : ∀ j, j ≤ 7 → Inv2 g won st u0.nf j (refAll S ⟨u0.P, u0.nf, []⟩ (rangeI 7 j))
  | 0, _ => J0
  | j + 1, hj => by
    rw [rangeI_succ, refAll_snoc]
    exact (Inv2.all G I O hw J0 j (by (first | lia | omega))).step G I O hw (by (first | lia | omega))
end
end text_P8
section text_P9
set_option maxRecDepth 100000

theorem lostsOf_mem {lost : List (Option Int)} {n : Nat} {x : PI} : x ∈ lostsOf lost n ↔ ∃ p : Nat, p < n ∧ lost.getD p none = some x.1 ∧ x.2 = p := by
  unfold lostsOf
  rw [List.mem_filterMap]
  constructor
  · rintro ⟨p, hp, e⟩
    rw [List.mem_range] at hp
    cases h : lost.getD p none with
    | none => rw [h] at e; cases e
    | some v =>
      rw [h] at e
      injection e with e
      subst e
      exact ⟨p, hp, h, rfl⟩
  · rintro ⟨p, hp, h, e⟩
    exact ⟨p, List.mem_range.mpr hp, by rw [h, ← e]; rfl⟩
theorem count_split {α : Type} (P : α → Bool) : ∀ l : List α, (l.filter P).length + (l.filter fun x => !P x).length = l.length
  | [] => rfl
  | a :: l => by
    have ih := count_split P l
    rw [List.filter_cons, List.filter_cons]
    cases P a <;> simp <;> (first | lia | omega)
theorem rangeI_len (a : Int) (n : Nat) : (rangeI a n).length = n := by unfold rangeI; simp

theorem law_f {g : List (List Int)} {ts : List Int} (G : Game g ts) {lost won : List (Option Int)} {keys : List Int} {S : Int → List Int} {st : RS} (hf : firstsOf g ts = [lost, won]) (O : SOk g keys S) (I : RInv g ts st) (hh : st.heap = []) : LawF g lost won keys S st := by
  obtain ⟨hl, hw⟩ := firsts_spec I hh G hf
  have ll : lost.length = 7 := by rw [hl]; simp
  have wl : won.length = 7 := by rw [hw]; simp
  have J1 := Inv1.all I O hl
  have K1 : Inv1 g lost st 7 (U1 st S) := J1 7 (Nat.le_refl _)
  have start2 : Inv2 g won st (U1 st S).nf 0 ⟨(U1 st S).P, (U1 st S).nf, []⟩ := by
    refine ⟨rfl, by show _ = _ + ((0 : Nat) : Int); simp, fun q h0 h7 => ?_, fun p h0 h7 => ?_, fun p => ?_, ?_, ?_, fun p hp => ?_⟩
    · show (U1 st S).P.1 (7 + q) = _
      rw [K1.n, if_neg (by (first | lia | omega)), I.n1 q h0 h7]
      have e : ((0 : Nat) : Int) ≤ q := by (first | lia | omega)
      simp only [e, and_true]
    · show (U1 st S).P.1 p = _
      rw [K1.n, I.n2 p h0 h7]
      by_cases hc : cn g (wOf st.hours) p = 0
      · rw [if_pos ⟨h0, by (first | lia | omega), hc⟩, if_pos hc]
      · rw [if_neg (fun h => hc h.2.2), if_neg hc, if_neg hc, show ((0 : Nat) : Int) = 0 from rfl, unN_zero G h0 h7]
    · show p ∈ (U1 st S).P.2 ↔ _
      rw [K1.rd]
      constructor
      · intro h; simp at h
      · rintro ⟨h0, h7, h1, h2⟩
        rw [show ((0 : Nat) : Int) = 0 from rfl, unN_zero G h0 h7] at h2
        exact absurd h2 h1
    · show (U1 st S).P.2.Nodup
      rw [K1.rd]; exact List.nodup_nil
    · show (U1 st S).P.2.Pairwise _
      rw [K1.rd]; exact .nil
    · have hp : p ∈ (U1 st S).P.2 := hp
      rw [K1.rd] at hp; simp at hp
  have J2 := Inv2.all G I O hw start2
  have K2 : Inv2 g won st (U1 st S).nf 7 (U2 st S) := J2 7 (Nat.le_refl _)
  have lat : ∀ p : Nat, p < 7 → lost.getD p none = lostB g ts (wOf st.hours) p := fun p hp => lost_at hl hp
  have oth : ∀ p, p ∈ othersOf lost 7 ↔ 0 ≤ p ∧ p < 7 ∧ cn g (wOf st.hours) p ≠ 0 := fun p => by
    constructor
    · intro h
      obtain ⟨h0, h7, h1⟩ := othersOf_mem h
      rw [lat p.toNat (by (first | lia | omega)), show ((p.toNat : Nat) : Int) = p by (first | lia | omega)] at h1
      refine ⟨h0, h7, fun hc => ?_⟩
      unfold lostB at h1
      rw [if_pos hc] at h1; cases h1
    · rintro ⟨h0, h7, hc⟩
      unfold othersOf
      refine List.mem_map.mpr ⟨p.toNat, ?_, by (first | lia | omega)⟩
      rw [List.mem_filter, List.mem_range]
      refine ⟨by (first | lia | omega), ?_⟩
      rw [lat p.toNat (by (first | lia | omega)), show ((p.toNat : Nat) : Int) = p by (first | lia | omega)]
      unfold lostB
      rw [if_neg hc]; rfl
  have r2m : ∀ p, p ∈ (U2 st S).P.2 ↔ 0 ≤ p ∧ p < 7 ∧ cn g (wOf st.hours) p ≠ 0 := fun p => by
    rw [K2.rd p]
    constructor
    · rintro ⟨h0, h7, h1, _⟩; exact ⟨h0, h7, h1⟩
    · rintro ⟨h0, h7, h1⟩; exact ⟨h0, h7, h1, by rw [show ((7 : Nat) : Int) = 7 from rfl]; exact unN_seven G h0 h7⟩
  have rperm : (U2 st S).P.2.Perm (othersOf lost 7) := (List.perm_ext_iff_of_nodup K2.nd (othersOf_nodup lost 7)).mpr fun p => by rw [r2m, oth]
  have rlen := rperm.length_eq
  have r7 : (U2 st S).P.2.length ≤ 7 := nodup_lt7 7 _ K2.nd fun p hp => by have := (r2m p).mp hp; exact ⟨this.1, by (first | lia | omega)⟩
  have lowS : ∀ k ∈ (U2 st S).P.2, S k = [] := fun k hk => O.s0 k (by have := (r2m k).mp hk; (first | lia | omega))
  have hnp : (U2 st S).nf = st.np := by
    have e1 := K2.nf
    have e2 := K1.nf
    have e3 := I.nf
    have e4 := I.np
    rw [hh, List.append_nil] at e4
    have c1 := count_split (fun q => (wOf st.hours q).isSome) (rangeI 0 7)
    rw [rangeI_len] at c1
    have c2 : ((rangeI 0 7).filter fun q => !(wOf st.hours q).isSome).length = ((rangeI 0 7).filter fun q => (wOf st.hours q).isNone).length := by
      congr 1
      refine List.filter_congr fun q _ => ?_
      cases wOf st.hours q <;> rfl
    have nd := I.nd
    rw [hh, List.append_nil] at nd
    have c3 : (st.log.map (·.2)).Perm ((rangeI 0 7).filter fun p => decide (cn g (wOf st.hours) p = 0)) := by
      refine (List.perm_ext_iff_of_nodup nd ((nodup_of_lt (rangeI_sorted _ _)).filter _)).mpr fun p => ?_
      rw [List.mem_filter, rangeI_mem, decide_eq_true_eq, List.mem_map]
      constructor
      · rintro ⟨x, hx, rfl⟩
        obtain ⟨h0, h7, hc, _⟩ := (log_mem I hh x).mp hx
        exact ⟨⟨h0, by (first | lia | omega)⟩, hc⟩
      · rintro ⟨⟨h0, h7⟩, hc⟩
        exact ⟨(lhOf g ts (wOf st.hours) p, p), (log_mem I hh _).mpr ⟨h0, by (first | lia | omega), hc, rfl⟩, rfl⟩
    have c4 := c3.length_eq
    rw [List.length_map] at c4
    (first | lia | omega)
  refine ⟨ll, wl, fun ys so => ?_, ?_, K1.rf, fun i hi => ?_, by rw [K1.rd]; exact Nat.zero_le _, K2.rf, fun i hi => ?_, by (first | lia | omega), fun k hk => ?_, fun p hp => ?_, fun ys so => ?_, fun j k hjk => ?_, ?_, ?_⟩
  · refine SortOut.unique (key := id) (xs := lostsOf lost 7) ⟨?_, I.srt⟩ so
    have nd := I.nd
    rw [hh, List.append_nil] at nd
    have nd2 : st.log.Nodup := (List.pairwise_map.mp nd).imp fun h e => h (by rw [e])
    refine (List.perm_ext_iff_of_nodup nd2 (lostsOf_nodup lost 7).1).mpr fun x => ?_
    rw [log_mem I hh, lostsOf_mem]
    constructor
    · rintro ⟨h0, h7, hc, e⟩
      refine ⟨x.2.toNat, by (first | lia | omega), ?_, by (first | lia | omega)⟩
      rw [lat x.2.toNat (by (first | lia | omega)), show ((x.2.toNat : Nat) : Int) = x.2 by (first | lia | omega)]
      unfold lostB
      rw [if_pos hc, e]
    · rintro ⟨p, hp, h, e⟩
      rw [lat p hp, ← e] at h
      unfold lostB at h
      split at h
      · rename_i hc
        injection h with h
        exact ⟨by (first | lia | omega), by (first | lia | omega), hc, h.symm⟩
      · cases h
  · refine List.ext_getElem? fun i => ?_
    by_cases hi : i < 7
    · rw [getD_some (ks := st.hours) (d := none) (by rw [I.hl]; exact hi), getD_some (ks := won) (d := none) (by rw [wl]; exact hi), won_at hw hi]
      unfold wOf
      rw [if_pos (by (first | lia | omega)), Int.toNat_natCast]
    · rw [List.getElem?_eq_none (by rw [I.hl]; (first | lia | omega)), List.getElem?_eq_none (by rw [wl]; (first | lia | omega))]
  · have J := J1 i (by (first | lia | omega))
    rw [show (0 : Int) + ((i : Nat) : Int) = i by (first | lia | omega), J.n, if_neg (by (first | lia | omega)), I.n2 i (by (first | lia | omega)) (by (first | lia | omega))]
    split <;> (first | lia | omega)
  · have J := J2 i (by (first | lia | omega))
    rw [J.n1 i (by (first | lia | omega)) (by (first | lia | omega))]
    split <;> (first | lia | omega)
  · have := (r2m k).mp hk
    exact (O.km k).mpr (by (first | lia | omega))
  · obtain ⟨h0, h7, hc⟩ := (oth p).mp hp
    rw [open_eq (st := st) G hw h0 h7]
    intro e
    apply hc
    unfold cn
    rw [e]; rfl
  · exact SortOut.unique (key := keyOf g won) (xs := othersOf lost 7) ⟨rperm, K2.srt⟩ so
  · have hmem := List.mem_of_getElem? hjk
    rw [doneAll_low _ _ _ fun y hy => lowS y (List.mem_of_mem_take hy)]
    show (if k ∈ (U2 st S).P.2.take j then (-2 : Int) else outN (U2 st S).P.1 (U2 st S).P.2 k) = -1
    rw [if_neg, outN_eq, if_pos hmem]
    intro hk
    obtain ⟨i, hi⟩ := List.mem_iff_getElem?.mp hk
    have hij : i < j := by
      have := (List.getElem?_eq_some_iff.mp hi).1
      rw [List.length_take] at this; (first | lia | omega)
    rw [List.getElem?_take_of_lt hij] at hi
    have hil := (List.getElem?_eq_some_iff.mp hi).1
    have := (List.getElem?_inj hil K2.nd).mp (hi.trans hjk.symm)
    (first | lia | omega)
  · rw [hnp, rlen]
    cases h : othersOf lost 7 with
    | nil => simp
    | cons a l => simp; (first | lia | omega)
  · rw [hnp]
    have e : (U3 st S).2 = [] := by
      unfold U3
      rw [doneAll_low _ _ _ lowS]
    rw [e]
    simp

structure PlainOk (ns : List Int) : Prop where
  mg : movesOf (boardOf (pairsOf ns)) = goalsOf (bookOf (pairsOf ns))
  G : Game (goalsOf (bookOf (pairsOf ns))) (timesOf ns)
  r : ∀ x ∈ pairsOf ns, 0 ≤ x.1 ∧ x.1 < 7 ∧ 0 ≤ x.2 ∧ x.2 < 7
  pl : (pairsOf ns).length ≤ 200
  F : ∀ lost won keys S st, firstsOf (goalsOf (bookOf (pairsOf ns))) (timesOf ns) = [lost, won] → SOk (goalsOf (bookOf (pairsOf ns))) keys S → RInv (goalsOf (bookOf (pairsOf ns))) (timesOf ns) st → st.heap = [] → LawF (goalsOf (bookOf (pairsOf ns))) lost won keys S st
theorem plain_ok (ns : List Int) : PlainOk ns := ⟨moves_goals (pairs_ok ns), game_ok _ _, pairs_ok ns, pairs_len ns, fun lost won keys S st hf O I hh => law_f (game_ok _ _) hf O I hh⟩
end text_P9
section text_R13
set_option maxRecDepth 100000
set_option maxHeartbeats 8000000
local macro_rules | `(tactic| walk_at "nm") => `(tactic| refine name_f (by rfl) (by assumption) (by rfl) (by walk_at "mem") ?_)

section
variable {w : World} {A : Around} {E : Value → Shared → Prop} {s : Shared} {R : Shared} {B B' : BM} {F : List (Addr × NM)} {μ μ' : Led}

theorem body_of {name qual : Str} {params : Arguments} {body : List Stmt} {scope : Scope} {dV kV doc pm cdv ct oc : Value} {an od : Option Addr} {osl : Array (Option Value)}
    {name' qual' : Str} {params' : Arguments} {body' : List Stmt} {scope' : Scope} {dV' kV' doc' pm' cdv' ct' oc' : Value} {an' od' : Option Addr} {osl' : Array (Option Value)} {L fa : Addr} {Q : Flow → Shared → Prop}
    (h1 : (KK w).lookup 277 = some ⟨oc, od, .func (fnOf name qual params body scope dV kV doc pm an cdv ct), osl⟩) (h2 : (KK w).lookup 277 = some ⟨oc', od', .func (fnOf name' qual' params' body' scope' dV' kV' doc' pm' an' cdv' ct'), osl'⟩)
    (k : A.frames = some [envOfC qual' scope' L fa (.ref 276)] → wpAny (model PG w) A (execs body' (envOfC qual' scope' L fa (.ref 276))) Q E s) :
    A.frames = some [envOfC qual scope L fa (.ref 276)] → wpAny (model PG w) A (execs body (envOfC qual scope L fa (.ref 276))) Q E s := by
  rw [h1] at h2
  cases h2
  exact k

theorem law_x {ns : List Int} {l : Addr} {vs : List Value} {name qual : Str} {params : Arguments} {body : List Stmt} {scope : Scope} {dV kV doc pm cdv ct oc : Value} {an od : Option Addr} {osl : Array (Option Value)} {L fa : Addr} {Q : Flow → Shared → Prop}
    (hbody : (KK w).lookup 277 = some ⟨oc, od, .func (fnOf name qual params body scope dV kV doc pm an cdv ct), osl⟩)
    (hB : Base (KK w) B) (hA : Cx A 14) (hfr : A.frames = some [envOfC qual scope L fa (.ref 276)])
    (X : St R B [(L, put (fun _ => none) "script" (.ref l))] ((L + 3, IsC none) :: (L + 2, IsC none) :: (L + 1, IsC none) :: (274, ItP (tabObj #[])) :: []) s)
    (hl : LstB B l vs) (hi : IntsAre vs ns) (hz : ns.length ≤ 63)
    (hmg : movesOf (boardOf (pairsOf ns)) = goalsOf (bookOf (pairsOf ns))) (G : Game (goalsOf (bookOf (pairsOf ns))) (timesOf ns)) (hr : ∀ x ∈ pairsOf ns, 0 ≤ x.1 ∧ x.1 < 7 ∧ 0 ≤ x.2 ∧ x.2 < 7) (hpl : (pairsOf ns).length ≤ 200)
    (hF : ∀ lost won keys S st, firstsOf (goalsOf (bookOf (pairsOf ns))) (timesOf ns) = [lost, won] → SOk (goalsOf (bookOf (pairsOf ns))) keys S → RInv (goalsOf (bookOf (pairsOf ns))) (timesOf ns) st → st.heap = [] → LawF (goalsOf (bookOf (pairsOf ns))) lost won keys S st)
    (k : ∀ B' F' μ' s', Sub B B' → (274, TabP) ∈ μ' → St R B' F' μ' s' → Q (.ret (.bool true)) s') : wpAny (model PG w) A (execs body (envOfC qual scope L fa (.ref 276))) Q E s := by
  refine body_of hbody (by rfl) (fun hfr => ?_) hfr
  clear hbody
  walk_at "ex"
  refine Assign_Tuple ?_
  walk_at "go"
  refine drawn_c hB (hA.le (by decide)) X hl hi hz (fun B1 a tv pv s1 hs1 ht htv hpv X1 => ?_)
  have hB1 := hB.sub hs1
  obtain ⟨tn, ht⟩ := ht
  refine assign_tup (vs := [tv, pv]) hA.handled X1 ⟨tn, X1.keep _ _ ht⟩ (fun s2 X2 => ?_) rfl rfl
  walk_at "go"
  refine moves_c hB1 (hA.le (by decide)) (by assumption) hpv hr (fun B2 mr s3 hs2 hmr X3 => ?_)
  rw [hmg] at hmr
  have hB2 := hB1.sub hs2
  generalize hg : goalsOf (bookOf (pairsOf ns)) = g at *
  generalize hts : timesOf ns = ts at *
  have htv2 : ListB B2 IntV ts tv := htv.sub hs2 fun _ _ z => z
  have hpv2 : ListB B2 (PairB B2) (pairsOf ns) pv := hpv.sub hs2 fun _ _ z => z.sub hs2
  walk_at "go"
  refine Assign_Tuple ?_
  walk_at "go"
  have hts7 : ts.length = 7 := G.tl
  refine hours_c hB2 (hA.le (by decide)) (by assumption) hmr htv2 G.gl (fun p hp => ?_) hts7 (fun p hp => ?_) (fun B3 fv s4 hs3 hfv X4 => ?_)
  · have h1 := G.gr p (by (first | lia | omega)) (by (first | lia | omega))
    have h2 := G.gs p (by (first | lia | omega)) (by (first | lia | omega))
    unfold gI at h1 h2
    rw [Int.toNat_natCast] at h1 h2
    exact ⟨nodup_lt7 7 _ (nodup_of_lt h2) h1, h1⟩
  · have := (G.tr p (by (first | lia | omega)) (by (first | lia | omega))).1
    unfold tI at this
    rwa [Int.toNat_natCast] at this
  have hB3 := hB2.sub hs3
  obtain ⟨lost, hlost⟩ : ∃ x, x = (firstsOf g ts).getD 0 [] := ⟨_, rfl⟩
  obtain ⟨won, hwon⟩ : ∃ x, x = (firstsOf g ts).getD 1 [] := ⟨_, rfl⟩
  have hfirsts : firstsOf g ts = [lost, won] := by rw [hlost, hwon]; rfl
  rw [hfirsts] at hfv
  have hF := fun keys S st => hF lost won keys S st hfirsts
  obtain ⟨fa2, fo, rfl, hfo, fvs, hfvs, fc, rfl⟩ := id hfv
  obtain ⟨v0, v1, rfl, hv0, hv1⟩ : ∃ v0 v1, fvs = [v0, v1] ∧ ListB B3 OptV lost v0 ∧ ListB B3 OptV won v1 := by
    cases hfvs with
    | cons h0 r => cases r with
      | cons h1 r => cases r with
        | nil => exact ⟨_, _, rfl, h0, h1⟩
  refine assign_lst2 hA.handled X4 hfo (fun s5 X5 => ?_) rfl rfl
  walk_at "go"
  refine Assign_Tuple ?_
  walk_at "go"
  have htv3 : ListB B3 IntV ts tv := htv2.sub hs3 fun _ _ z => z
  have hpv3 : ListB B3 (PairB B3) (pairsOf ns) pv := hpv2.sub hs3 fun _ _ z => z.sub hs3
  refine run_c (ts := ts) hB3 (hA.le (by decide)) hfr (FrF.nil.cons (by show ScopeKind.function ≠ ScopeKind.module; decide) rfl) (by assumption) htv3 hpv3 hr hpl (by rw [hg]; exact G) (fun B4 tu x dx d rl la ha nds st keys S lo ho s6 hs4 hB4 htu hx D O RI hemp hlo hlx hho hhx X6 => ?_)
  rw [hg] at O RI
  have LF := hF keys S st O RI hemp
  obtain ⟨tn2, htu⟩ := htu
  refine assign_tup (vs := [.ref x, .ref la, .ref ha]) hA.handled X6 ⟨tn2, X6.keep _ _ htu⟩ (fun s7 X7 => ?_) rfl rfl
  clear X X1 X2 X3 X4 X5 X6
  have hv0 : ListB B4 OptV lost v0 := hv0.sub hs4 fun _ _ z => z
  have hv1 : ListB B4 OptV won v1 := hv1.sub hs4 fun _ _ z => z
  have hmr : ListB B4 (ListB B4 IntV) g mr := hmr.sub (hs3.trans hs4) fun _ _ z => z.sub (hs3.trans hs4) fun _ _ q => q
  obtain ⟨lsa, lso, rfl, hlso, hlsx⟩ := id hv0
  obtain ⟨wna, wno, rfl, hwno, hwnx⟩ := id hv1
  walk_at "go"
  rename_i s8 X8
  refine comp_e X8 (fun B' => PairB B') (by rfl) rfl (by decide) ?_
  walk_at "go"
  refine range_1 (by assumption) (fun r s9 X9 => ?_)
  refine it_range0 hA.handled X9 (k := 7) (by decide) (fun I o s10 T X10 => ?_)
  refine ⟨fun C i B' m' μ' xs => i ≤ 7 ∧ lostsOf lost i = xs ∧ (dx, SD d (.ref rl) st.np st.nf) :: (rl, XL IntV []) :: (npL nds ++ (L + 3, IsC (some (.ref wna))) :: (L + 2, IsC (some mr)) :: (L + 1, IsC (some (.ref lsa))) :: (274, ItP (tabObj #[])) :: []) = μ', I, 7, _, o, B4, _, _, rfl, T, X10, fun C i B' m' μ' xs h => by rw [← h.2.1]; have := lostsOf_len lost i; (first | lia | omega), fun B1 B2 hs y v h => h.sub hs, fun C => ⟨by (first | lia | omega), rfl, rfl⟩, ?_, ?_⟩
  · rintro C D' i v B' m2 μ' o' s' E' xs hi ⟨t, rfl⟩ hs ⟨hi7, rfl, rfl⟩ Y Qy Qm qy qm
    have hB' := hB4.sub hs
    walk_at "go"
    refine get_x (rel := OptV) (x := lost.getD i none) (by assumption) (.inl ⟨_, hs _ _ hlso, hlsx⟩) (by (first | lia | omega)) (by (first | lia | omega)) (by rw [Int.toNat_natCast]; exact getD_some (by rw [LF.ll]; (first | lia | omega))) (fun v hv => ?_)
    cases hlp : lost.getD i none with
    | none =>
      rw [hlp] at hv
      have hv : v = .none := hv
      subst hv
      walk_at "go"
      exact qm _ ⟨B', _, _, Sub.refl _, by assumption, by (first | lia | omega), by rw [lostsOf_succ, hlp, List.append_nil], rfl⟩
    | some h =>
      rw [hlp] at hv
      obtain ⟨t4, rfl⟩ := hv
      walk_at "go"
      refine get_x (rel := OptV) (x := lost.getD i none) (by assumption) (.inl ⟨_, hs _ _ hlso, hlsx⟩) (by (first | lia | omega)) (by (first | lia | omega)) (by rw [Int.toNat_natCast]; exact getD_some (by rw [LF.ll]; (first | lia | omega))) (fun v hv => ?_)
      rw [hlp] at hv
      obtain ⟨t5, rfl⟩ := hv
      walk_at "go"
      refine @newPair _ _ _ _ _ _ _ _ _ _ _ _ _ _ _ (by assumption) (by assumption) (fun B5 pr s11 hs5 hB5 hpr X11 => ?_)
      exact qy _ _ ⟨B5, _, _, (h, (i : Int)), hs5, X11, ⟨by (first | lia | omega), by rw [lostsOf_succ, hlp], rfl⟩, hpr⟩
  rintro C D1 B5 m5 μ5 s11 xs hs5 ⟨_, rfl, rfl⟩ Y
  have hB5 := hB4.sub hs5
  have hx5 := hs5 _ _ hx
  walk_at "go"
  refine sorted_p Y (.inr (.head _)) (lostsOf_nodup lost 7).1 (by have := lostsOf_len lost 7; (first | lia | omega)) (fun sa ys s12 so Y2 => ?_)
  have hlog := LF.log ys so
  refine ne_x (dPair (B := B5)) (n := 3) (hA.le (by decide)) Y2 (.inl ⟨lo, hs5 _ _ hlo, hlx.mono fun _ _ q => q.sub hs5⟩) (.inr (.head _)) ?_
  rw [hlog]
  have Y2 := Y2.drop1.drop1
  clear Y X7 X8 X9 X10
  walk_at "go"
  refine ite_both (fun hc => by simp at hc) fun _ => ?_
  walk_at "go"
  refine ne_x (dOpt (B := B5)) (n := 3) (hA.le (by decide)) Y2 (.inl ⟨ho, hs5 _ _ hho, hhx⟩) (.inl ⟨wno, hs5 _ _ hwno, hwnx⟩) ?_
  rw [LF.hrs]
  walk_at "go"
  refine ite_both (fun hc => by simp at hc) fun _ => ?_
  walk_at "go"
  refine comp_pa Y2 IntV (fun j => othersOf lost j) (by rfl) (by rfl) rfl (by decide) (by rfl) rfl ?_
  walk_at "go"
  refine range_1 (by assumption) (fun r s9 X9 => ?_)
  refine it_range0 hA.handled X9 (k := 7) (by decide) (fun I o s10 T X10 => ?_)
  refine ⟨I, 7, _, o, _, B5, _, rfl, T, X10, fun i hi => by have := othersOf_len lost i; (first | lia | omega), rfl, ?_, ?_⟩
  · rintro C D' i v m2 o' s' E' hi ⟨t, rfl⟩ Y Qy Qm qy qm
    walk_at "go"
    refine get_x (rel := OptV) (x := lost.getD i none) (by assumption) (.inl ⟨_, hs5 _ _ hlso, hlsx⟩) (by (first | lia | omega)) (by (first | lia | omega)) (by rw [Int.toNat_natCast]; exact getD_some (by rw [LF.ll]; (first | lia | omega))) (fun v hv => ?_)
    cases hlp : lost.getD i none with
    | none =>
      rw [hlp] at hv
      have hv : v = .none := hv
      subst hv
      walk_at "go"
      exact qy _ _ ⟨_, (i : Int), by assumption, ⟨_, rfl⟩, by rw [othersOf_succ, hlp]⟩
    | some h =>
      rw [hlp] at hv
      obtain ⟨t4, rfl⟩ := hv
      walk_at "go"
      exact qm _ ⟨_, by assumption, by rw [othersOf_succ, hlp, List.append_nil]⟩
  intro D2 s12 Y
  have Y : St R B5 _ ((D2, XL IntV (othersOf lost 7)) :: (dx, SD d (.ref rl) st.np st.nf) :: (rl, XL IntV []) :: (npL nds ++ (L + 3, IsC (some (.ref wna))) :: (L + 2, IsC (some mr)) :: (L + 1, IsC (some (.ref lsa))) :: (274, ItP (tabObj #[])) :: [])) s12 := Y
  have hol := othersOf_len lost 7
  have D5 := D.sub hs5
  have hsucc : ∀ k ∈ keys, ∀ j ∈ S k, j ∈ keys := fun k hk j hj => by
    by_cases h : 7 ≤ k ∧ k < 14
    · have := O.s2 (k - 7) (by (first | lia | omega)) (by (first | lia | omega))
      rw [show 7 + (k - 7) = k by (first | lia | omega)] at this
      rw [this, List.mem_filter, rangeI_mem] at hj
      exact (O.km j).mpr (by (first | lia | omega))
    · rw [O.s0 k h] at hj; simp at hj
  have hS7 : ∀ k, (S k).length ≤ 7 := fun k => by
    by_cases h : 7 ≤ k ∧ k < 14
    · have := O.s2 (k - 7) (by (first | lia | omega)) (by (first | lia | omega))
      rw [show 7 + (k - 7) = k by (first | lia | omega)] at this
      rw [this]
      refine Nat.le_trans (List.length_filter_le _ _) ?_
      unfold rangeI; simp
    · rw [O.s0 k h]; simp
  walk_at "go"
  refine range_1 (by assumption) (fun r s13 X13 => ?_)
  walk_at "go"
  refine refused_c (a := 0) (b := 7) (n := 7) hB5 (hA.le (by decide)) hfr (FrF.nil.cons (by show ScopeKind.function ≠ ScopeKind.module; decide) rfl) hx5 D5 (by decide) (by decide) (by decide) (by decide) (fun i hi => (O.km _).mpr (by (first | lia | omega))) hsucc hS7 (by simp) LF.r1ok
    (X13.perm (μ' := (dx, SD d (.ref rl) st.np st.nf) :: (rl, XL IntV []) :: (npL nds ++ (r, RngP 0 7) :: (D2, XL IntV (othersOf lost 7)) :: (L + 3, IsC (some (.ref wna))) :: (L + 2, IsC (some mr)) :: (L + 1, IsC (some (.ref lsa))) :: (274, ItP (tabObj #[])) :: [])) (by walk_at "pm")) (fun B6 nd6 D3 s15 hs6 hB6 D6 Y6 => ?_)
  rw [show refAll S ⟨(st.N, []), st.nf, []⟩ (rangeI 0 7) = U1 st S from rfl] at Y6 D6
  rw [LF.r1] at Y6
  walk_at "go"
  refine ne_x (dInt (B := B6)) (n := 3) (hA.le (by decide)) Y6 (.inr (.head _)) (.inr (by walk_at "mem")) ?_
  walk_at "go"
  refine ite_both (fun hc => by simp at hc) fun _ => ?_
  have Y6 := (Y6.perm (μ' := (D3, XL IntV (othersOf lost 7)) :: (r, RngP 0 7) :: (dx, SD d (.ref rl) st.np (U1 st S).nf) :: (rl, XL IntV (U1 st S).P.2) :: (npL nd6 ++ (D2, XL IntV (othersOf lost 7)) :: (L + 3, IsC (some (.ref wna))) :: (L + 2, IsC (some mr)) :: (L + 1, IsC (some (.ref lsa))) :: (274, ItP (tabObj #[])) :: [])) (by walk_at "pm")).drop1.drop1
  have hx6 := hs6 _ _ hx5
  clear Y X9 X10 X13 Y2
  walk_at "go"
  refine range_2 (by assumption) (fun r2 s16 X16 => ?_)
  walk_at "go"
  refine refused_c (a := 7) (b := 14) (n := 7) hB6 (hA.le (by decide)) hfr (FrF.nil.cons (by show ScopeKind.function ≠ ScopeKind.module; decide) rfl) hx6 D6 (by decide) (by decide) (by decide) (by decide) (fun i hi => (O.km _).mpr (by (first | lia | omega))) hsucc hS7 LF.r1l LF.r2ok
    (X16.perm (μ' := (dx, SD d (.ref rl) st.np (U1 st S).nf) :: (rl, XL IntV (U1 st S).P.2) :: (npL nd6 ++ (r2, RngP 7 14) :: (D2, XL IntV (othersOf lost 7)) :: (L + 3, IsC (some (.ref wna))) :: (L + 2, IsC (some mr)) :: (L + 1, IsC (some (.ref lsa))) :: (274, ItP (tabObj #[])) :: [])) (by walk_at "pm")) (fun B7 nd7 D4 s17 hs7 hB7 D7 Y7 => ?_)
  have hx7 := hs7 _ _ hx6
  rw [show refAll S ⟨((U1 st S).P.1, (U1 st S).P.2), (U1 st S).nf, []⟩ (rangeI 7 7) = U2 st S from rfl] at Y7 D7
  rw [LF.r2] at Y7
  have hwno7 : B7 wna = some wno := hs7 _ _ (hs6 _ _ (hs5 _ _ hwno))
  walk_at "go"
  refine comp_p Y7 IntV (fun j => wonsOf won j) (by rfl) rfl (by decide) ?_
  walk_at "go"
  refine range_1 (by assumption) (fun r3 s9 X9 => ?_)
  refine it_range0 hA.handled X9 (k := 7) (by decide) (fun I o s10 T X10 => ?_)
  refine ⟨I, 7, _, o, _, B7, _, rfl, T, X10, fun i hi => by have := wonsOf_len won i; (first | lia | omega), rfl, ?_, ?_⟩
  · rintro C D' i v m2 o' s' E' hi ⟨t, rfl⟩ Y Qy Qm qy qm
    walk_at "go"
    refine get_x (rel := OptV) (x := won.getD i none) (by assumption) (.inl ⟨_, hwno7, hwnx⟩) (by (first | lia | omega)) (by (first | lia | omega)) (by rw [Int.toNat_natCast]; exact getD_some (by rw [LF.wl]; (first | lia | omega))) (fun v hv => ?_)
    cases hlp : won.getD i none with
    | none =>
      rw [hlp] at hv
      have hv : v = .none := hv
      subst hv
      walk_at "go"
      exact qm _ ⟨_, by assumption, by rw [wonsOf_succ, hlp, List.append_nil]⟩
    | some h =>
      rw [hlp] at hv
      obtain ⟨t4, rfl⟩ := hv
      walk_at "go"
      exact qy _ _ ⟨_, 7 + (i : Int), by assumption, ⟨_, rfl⟩, by rw [wonsOf_succ, hlp]⟩
  intro D5' s18 Y8
  refine ne_x (dInt (B := B7)) (n := 3) (hA.le (by decide)) Y8 (.inr (by walk_at "mem")) (.inr (.head _)) ?_
  walk_at "go"
  refine ite_both (fun hc => by simp at hc) fun _ => ?_
  have Y8 : St R B7 _ ((D5', XL IntV (wonsOf won 7)) :: (D4, XL IntV (wonsOf won 7)) :: (dx, SD d (.ref rl) st.np (U2 st S).nf) :: (rl, XL IntV (U2 st S).P.2) :: (npL nd7 ++ (r2, RngP 7 14) :: (D2, XL IntV (othersOf lost 7)) :: (L + 3, IsC (some (.ref wna))) :: (L + 2, IsC (some mr)) :: (L + 1, IsC (some (.ref lsa))) :: (274, ItP (tabObj #[])) :: [])) s18 := Y8
  have Y8 := (Y8.drop1.drop1.perm (μ' := (r2, RngP 7 14) :: (dx, SD d (.ref rl) st.np (U2 st S).nf) :: (rl, XL IntV (U2 st S).P.2) :: (npL nd7 ++ (D2, XL IntV (othersOf lost 7)) :: (L + 3, IsC (some (.ref wna))) :: (L + 2, IsC (some mr)) :: (L + 1, IsC (some (.ref lsa))) :: (274, ItP (tabObj #[])) :: [])) (by walk_at "pm")).drop1
  clear Y6 X16 Y7 X9 X10
  walk_at "go"
  refine smeth (f := 99) hB7 (by assumption) hx7 (by walk_at "mem") (by rfl) (by rfl) ?_
  walk_at "go"
  refine ready_c hB7 (hA.le (by decide)) hx7 D7 LF.r2k (by have := LF.r2l; (first | lia | omega)) (by assumption) (fun B8 nd8 rt rvs s19 hs8 hB8 D8 hrv hrt Y9 => ?_)
  have hx8 := hs8 _ _ hx7
  walk_at "go"
  rename_i s20 Y10
  refine list_tup (rel := IntV) Y10 hrt hrv (by have := LF.r2l; (first | lia | omega)) (fun la2 s21 Y11 => ?_)
  walk_at "go"
  have Y11 := Y11.perm (μ' := (274, ItP (tabObj #[])) :: (la2, XL IntV (U2 st S).P.2) :: (dx, SD d (.ref rl) (st.np + ((U2 st S).P.2.length : Int)) (U2 st S).nf) :: (rl, XL IntV []) :: (npL nd8 ++ (D2, XL IntV (othersOf lost 7)) :: (L + 3, IsC (some (.ref wna))) :: (L + 2, IsC (some mr)) :: (L + 1, IsC (some (.ref lsa))) :: [])) (by walk_at "pm")
  clear Y8 Y9 Y10
  refine lam_x (c := 276) hB8 Y11 (by rfl) (by rfl) (by rfl) (by rfl) (by kernel_rfl) (fun B9 lq lc ctv pm9 s22 hs9 hB9 hlq hlc Y12 => ?_)
  have hx9 := hs9 _ _ hx8
  walk_at "go"
  refine sorted_k (keyOf g won) 0 (rel := IntV) Y12 (.inr (by walk_at "mem")) ?_ (by (first | lia | omega)) (fun p v p1 p2 B10 s23 E1 Q1 hp hv hs10 Z kk => ?_) (fun B10 sa ys s23 hs10 so Y13 => ?_)
  · have hnd := othersOf_nodup lost 7
    exact List.Pairwise.map _ (fun a b h e => h (by unfold keyOf at e; injection e)) hnd
  · obtain ⟨tp, rfl⟩ := hv
    have hB10 := hB9.sub hs10
    refine lam_call (n := 8) (binds := [("p", .int p tp)]) hB10 ((hA.le (by decide)).in1.in1) Z (hs10 _ _ hlq) (hlc.sub hs10) (by rfl) (locs rfl) (fun L' A' s24 hA' hF' Z1 => ?_)
    obtain ⟨hp0, hp7, hpn⟩ := othersOf_mem hp
    have hs410 : Sub B4 B10 := (((((hs5.trans hs6).trans hs7).trans hs8).trans hs9).trans hs10)
    have hmr10 : ListB B10 (ListB B10 IntV) g mr := hmr.sub hs410 fun _ _ z => z.sub hs410 fun _ _ q => q
    obtain ⟨ma, mo, rfl, hmo, hmx⟩ := id hmr10
    have hgpl : (gI g p).length ≤ 7 := nodup_lt7 7 _ (nodup_of_lt (G.gs p hp0 hp7)) (G.gr p hp0 hp7)
    walk_at "go"
    refine comp_p Z1 IntV (fun j => openOf g won p j) (by rfl) rfl (by decide) ?_
    walk_at "go"
    refine get_x (rel := ListB B10 IntV) (x := gI g p) (by assumption) (.inl ⟨mo, hmo, hmx⟩) hp0 (by (first | lia | omega)) (getD_some (by rw [G.gl]; (first | lia | omega))) (fun v hv => ?_)
    obtain ⟨mra, _, rfl, hmra, mrs, hmrs, mrc, rfl⟩ := hv
    have hmrl := hmrs.length
    refine it_list hA'.handled Z1 hmra (fun I o s25 T Z2 => ?_)
    refine ⟨I, _, _, o, _, B10, _, rfl, T, Z2, fun i hi => ?_, rfl, ?_, ?_⟩
    · unfold openOf
      refine Nat.le_trans (List.length_filter_le _ _) ?_
      rw [List.length_take]; (first | lia | omega)
    · rintro C D' i v m2 o' s' E' hi hv Y Qy Qm qy qm
      obtain ⟨q, hq, tq, rfl⟩ := hmrs.getV hv
      obtain ⟨hq0, hq7⟩ := G.gr p hp0 hp7 q (List.mem_of_getElem? hq)
      walk_at "go"
      refine get_x (rel := OptV) (x := won.getD q.toNat none) (by assumption) (.inl ⟨_, hs410 _ _ hwno, hwnx⟩) hq0 (by (first | lia | omega)) (getD_some (by rw [LF.wl]; (first | lia | omega))) (fun v hv => ?_)
      cases hlp : won.getD q.toNat none with
      | none =>
        rw [hlp] at hv
        have hv : v = .none := hv
        subst hv
        walk_at "go"
        exact qy _ _ ⟨_, q, by assumption, ⟨_, rfl⟩, by rw [openOf_succ hq, hlp]⟩
      | some h =>
        rw [hlp] at hv
        obtain ⟨t4, rfl⟩ := hv
        walk_at "go"
        exact qm _ ⟨_, by assumption, by rw [openOf_succ hq, hlp, List.append_nil]⟩
    intro D6' s26 Z3
    rw [hmrl] at Z3
    obtain ⟨B11, hs11, ⟨_, hD6, vs6, hv6, c6, rfl⟩, hnone, Z3⟩ := Z3.freeze
    have hl6 := hv6.length
    have hB11 := hB10.sub hs11
    walk_at "go"
    refine max_gen (d := []) Z3 (max_args0 _) ⟨none, none, rfl, rfl, rfl⟩ (it_list hA'.handled Z3 hD6 (fun I4 o6 s27 T4 Z4 => ?_))
    refine ⟨I4, _, _, o6, _, B11, _, openOf g won p (gI g p).length, rfl, T4, Z4, hl6, fun n v hv => hv6.getV hv, fun _ => LF.ne p hp, fun v s28 Z5 hv => ?_⟩
    have hmx : ∃ t, v = .int ((maxI (openOf g won p (gI g p).length)).getD 0) t := by
      split at hv
      · rename_i n e; rw [e]; exact hv
      · obtain ⟨r, hr⟩ := hv; simp at hr
    obtain ⟨tv5, rfl⟩ := hmx
    walk_at "go"
    refine @newPair _ _ _ _ _ _ _ _ _ _ _ _ _ _ _ (by assumption) (by assumption) (fun B12 pr s29 hs12 hB12 hpr Z6 => ?_)
    exact kk B12 _ _ (hs11.trans hs12) hpr Z6.leave
  have hsrt := LF.srt ys so
  have hB10 := hB9.sub hs10
  have hx10 := hs10 _ _ hx9
  refine ne_x (dInt (B := B10)) (n := 3) (hA.le (by decide)) Y13 (.inr (by walk_at "mem")) (.inr (.head _)) ?_
  rw [hsrt]
  walk_at "go"
  refine ite_both (fun hc => by simp at hc) fun _ => ?_
  have Y14 := (Y13.perm (μ' := (sa, XL IntV ys) :: (la2, XL IntV (U2 st S).P.2) :: (dx, SD d (.ref rl) (st.np + ((U2 st S).P.2.length : Int)) (U2 st S).nf) :: (rl, XL IntV []) :: (npL nd8 ++ (274, TabP) :: (D2, XL IntV (othersOf lost 7)) :: (L + 3, IsC (some (.ref wna))) :: (L + 2, IsC (some mr)) :: (L + 1, IsC (some (.ref lsa))) :: [])) (by walk_at "pm")).drop1.drop1
  clear Y11 Y12 Y13 hsrt
  walk_at "go"
  refine smeth (f := 106) hB10 (by assumption) hx10 (by walk_at "mem") (by rfl) (by rfl) ?_
  walk_at "go"
  refine active_c (ready := []) hB10 (hA.le (by decide)) hx10 (Nat.zero_le _) (by assumption) (fun s24 X24 => ?_)
  walk_at "go"
  refine MethodCallS_ ?_
  walk_at "go"
  refine smeth_attr (f := 120) hB10 (by assumption) hx10 (by walk_at "mem") (by rfl) (by rfl) (by rfl) (by rfl) (by decide +kernel) (fun B11 q s25 hs11 hB11 hq X25 => ?_)
  have hx11 := hs11 _ _ hx10
  walk_at "go"
  refine cw_meS1 (K := KK w) (f := 120) (self := .ref x) (by rfl) ?_
  walk_at "go"
  obtain ⟨rc, hrt⟩ := hrt
  have hrt11 := hs11 _ _ (hs10 _ _ (hs9 _ _ hrt))
  have hrvl := hrv.length
  have hr2 := LF.r2l
  refine star_x X25 (X25.keep _ _ hrt11) (.inr rfl) (by (first | lia | omega)) (fun s26 X26 => ?_)
  walk_at "go"
  refine ⟨methP_x hB11 X26 hq, wpAny_call (method_call (X26.keep _ _ hq) ?_)⟩
  simp only [List.nil_append, List.append_nil]
  refine done_cc hB11 (hA.le (by decide)) hx11 (D8.sub ((hs9.trans hs10).trans hs11)) hrv LF.r2l (fun j k hjk => ⟨LF.r2k k (List.mem_of_getElem? hjk), LF.dok j k hjk⟩) (fun k => Nat.le_trans (hS7 k) (by decide)) (by simp) (fun k hk j hj => hsucc k (LF.r2k k hk) j hj) X26 (fun B12 nd12 s27 hs12 hB12 D12 X27 => ?_)
  have hx12 := hs12 _ _ hx11
  walk_at "go"
  refine newLst_ (P := XL IntV []) (by assumption) (fun c => ⟨_, .nil, c, rfl⟩) (by simp) (fun e0 s28 X28 => ?_)
  walk_at "go"
  refine ne_x (dInt (B := B12)) (n := 3) (hA.le (by decide)) X28 (.inr (by walk_at "mem")) (.inr (.head _)) ?_
  have X28 := X28.drop1
  walk_at "go"
  refine wpAny_is_plain rfl ?_
  have ebz : (Value.bool (decide ((U2 st S).nf < st.np + ((U2 st S).P.2.length : Int)) || !([] : List Int).isEmpty) == Value.bool (!decide (othersOf lost 7 = []))) = true := by
    rw [LF.bz]
    cases (!decide (othersOf lost 7 = [])) <;> rfl
  rw [ebz]
  walk_at "go"
  refine smeth (f := 106) hB12 (by assumption) hx12 (by walk_at "mem") (by rfl) (by rfl) ?_
  walk_at "go"
  refine active_c (ready := (U3 st S).2) hB12 (hA.le (by decide)) hx12 ?_ (by assumption) (fun s29 X29 => ?_)
  · have h3 := LF.fin
    rw [Bool.or_eq_false_iff] at h3
    have h4 : (U3 st S).2 = [] := by
      have := h3.2
      cases h : (U3 st S).2 with
      | nil => rfl
      | cons a l => rw [h] at this; simp at this
    rw [h4]; exact Nat.zero_le _
  rw [LF.fin]
  walk_at "go"
  refine wpAny_is_plain rfl ?_
  walk_at "go"
  refine k B12 _ _ _ (((((((((((hs1.trans hs2).trans hs3).trans hs4).trans hs5).trans hs6).trans hs7).trans hs8).trans hs9).trans hs10).trans hs11).trans hs12) ?_ X29
  walk_at "mem"
end
end text_R13
section text_Fi
set_option maxRecDepth 100000
set_option maxHeartbeats 8000000

theorem cx15 : Cx callerA 15 := ⟨rfl, by decide +kernel, by decide +kernel⟩
theorem keys_ok (z : Nat) (h : 274 < z) : (z ∉ [z + 1 + 1 + 1, z + 1 + 1, z + 1, 274]) ∧ ([z + 1 + 1 + 1, z + 1 + 1, z + 1, 274] : List Nat).Nodup := by simp; (first | lia | omega)
theorem law_ok : PySem.Challenge.rw_op0244_01.Holds := hd (by
  k_go0
  rename_i w s₀ s₁ mg mb G Y fa o pm doc ho hg X V T B TE TW hcd ns hs hlay0 hL0 hr0 hl2 as1 as2 la vs as3 hLl ra w1 r0 hI hr hc1 hc2 hD h₁ tk₁ o3 o2 o1 e3 e2 e1 X0 X' T' K' F' N' l0
  have hP := plain_ok ns
  have hB : Base (KK w) (fun b => (ghostOf s₁.heap [(276, 274)]).get? b) := ⟨fun a o e => X' a o e, _, _, _, _, _, _, fun a o e => e, X', T'⟩
  have n3 := N' (s₁.heap.objs.size + 1 + 1 + 1, o3) (by simp)
  have n2 := N' (s₁.heap.objs.size + 1 + 1, o2) (by simp)
  have n1 := N' (s₁.heap.objs.size + 1, o1) (by simp)
  have n0 := N' (274, tabObj #[]) (by simp)
  have hfn : (ghostOf s₁.heap [(276, 274)]).get? s₁.heap.objs.size = none := Heap.get?_none_of_le F'.above
  refine law_x (ns := ns) (l := la) (vs := vs) (R := s₁) (B := fun b => (ghostOf s₁.heap [(276, 274)]).get? b) (by rfl) hB (cx15.deeper _) rfl ?stt lifted hI (by (first | lia | omega)) hP.mg hP.G hP.r hP.pl hP.F ?fin
  case stt =>
    refine ⟨fun p hp => ?_, fun p hp => ?_, fun p hp => ?_, by simp, fun b o e => F'.keep b o e, fun p hp => ?_, fun p hp => ?_, ?_, rfl, rfl, rfl⟩
    · rw [List.mem_singleton.mp hp]; exact F'.ns
    · rw [List.mem_singleton.mp hp]; exact hfn
    · rw [List.mem_singleton.mp hp]
      exact (keys_ok _ l0).1
    · simp only [List.mem_cons, List.not_mem_nil, or_false] at hp
      rcases hp with rfl | rfl | rfl | rfl
      · exact ⟨_, n3.1, e3⟩
      · exact ⟨_, n2.1, e2⟩
      · exact ⟨_, n1.1, e1⟩
      · exact ⟨_, n0.1, rfl⟩
    · simp only [List.mem_cons, List.not_mem_nil, or_false] at hp
      rcases hp with rfl | rfl | rfl | rfl
      · exact n3.2.2
      · exact n2.2.2
      · exact n1.2.2
      · exact n0.2.2
    · exact (keys_ok _ l0).2
  case fin =>
    intro B' F9 μ9 s' hs' hm X9
    obtain ⟨ot, hot, ps, rfl⟩ := X9.led _ hm
    refine ⟨⟨.inl ⟨.bool true, _, _, rfl, fun cls => rfl, ReadsW.bool _, postW_of rfl (w_eq_bool (w_res rfl) w_lit) rfl, fun h => ⟨List.nodup_nil, fun a ha => nomatch ha⟩⟩, fun b o e => X9.keep b o (hs' b o e), X9.os, ?_⟩, ⟨ps, hot⟩, trivial⟩
    exact X9.gens.trans hg)
end text_Fi
end
end Mine
theorem PySem.Challenge.cw_op0244_01_holds : PySem.Challenge.rw_op0244_01.Holds := by
  exact Mine.law_ok
